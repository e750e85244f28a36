/-
FnRefNormalSelf: the regular expressions, the digest and the reference, part 20 of 26.
-/
import Derived.Test.YtkbmigfkclnlaaaGreatDoorV19
import Derived.Test.YtkbmigfkclnlaaaGreatDoorV02
import Derived.Lib.Hide
set_option linter.all false
namespace Go.Rx
def shx (x : Nat) : Bool := dig x || decide (97 ≤ x ∧ x ≤ 102)
def dfx (x : Nat) : Bool := wrd x || is 61 x || is 45 x
def nlow (x : Nat) : Bool := !low x
end Go.Rx
namespace Go.Proofs.YtkbmigfkclnlaaaGreatDoor
open Go.RowKit Go.Rx
attribute [local go_sem] Ext.cell Ext.frozen Ext.lt Ext.lt_add Ext.cell2 Ext.frozen2

abbrev Kind (F : FuncId) (p : Nat → Bool) : Prop := ∀ (x : Nat) (w : World), Calls Tryz.prog F #[.int .u8 x] w fun e w' => e = .returned (.bool (p x)) ∧ ∃ y : Ext w, w' = y.now

theorem kind_digit : Kind 59 dig := by
 intro x w
 by_cases h1 : 48 ≤ x
 ·have h1' : (48 : Int) ≤ (x : Int) := by omega
  by_cases h2 : x ≤ 57
  ·have h2' : (x : Int) ≤ 57 := by omega
   have e : dig x = true := by simp [dig, h1, h2]
   rw [e]
   go_enter Tryz.func59, Tryz.ntmps59
   go_wp2
   go_ret
   exact ⟨rfl, Ext.here _⟩
  ·have h2' : ¬ (x : Int) ≤ 57 := by omega
   have e : dig x = false := by simp [dig, h2]
   rw [e]
   go_enter Tryz.func59, Tryz.ntmps59
   go_wp2
   go_ret
   exact ⟨rfl, Ext.here _⟩
 ·have h1' : ¬ (48 : Int) ≤ (x : Int) := by omega
  have e : dig x = false := by simp [dig, h1]
  rw [e]
  go_enter Tryz.func59, Tryz.ntmps59
  go_wp2
  go_ret
  exact ⟨rfl, Ext.here _⟩

theorem kind_lower : Kind 64 low := by
 intro x w
 by_cases a0 : 97 ≤ x
 ·have a0' : (97 : Int) ≤ (x : Int) := by omega
  have c0 : decide ((97 : Int) ≤ (x : Int)) = true := decide_eq_true a0'
  by_cases b0 : x ≤ 122
  ·have b0' : (x : Int) ≤ 122 := by omega
   have d0 : decide ((x : Int) ≤ 122) = true := decide_eq_true b0'
   have e : low x = true := by simp [low, a0, b0]
   rw [e]
   go_enter Tryz.func64, Tryz.ntmps64
   go_wp2
   go_ret
   exact ⟨rfl, Ext.here _⟩
  ·have b0' : ¬ (x : Int) ≤ 122 := by omega
   have d0 : decide ((x : Int) ≤ 122) = false := decide_eq_false b0'
   cases a1 : dig x with
   | true =>
    have e : low x = true := by simp [low, b0, a1]
    rw [e]
    go_enter Tryz.func64, Tryz.ntmps64
    go_wp2_with (first | (go_at_call 59; (with_reducible refine (kind_digit x _).mono ?_); rintro e w1 ⟨rfl, y, rfl⟩))
    go_ret
    exact ⟨rfl, y, rfl⟩
   | false =>
    have e : low x = false := by simp [low, b0, a1]
    rw [e]
    go_enter Tryz.func64, Tryz.ntmps64
    go_wp2_with (first | (go_at_call 59; (with_reducible refine (kind_digit x _).mono ?_); rintro e w1 ⟨rfl, y, rfl⟩))
    go_ret
    exact ⟨rfl, y, rfl⟩
 ·have a0' : ¬ (97 : Int) ≤ (x : Int) := by omega
  have c0 : decide ((97 : Int) ≤ (x : Int)) = false := decide_eq_false a0'
  cases a1 : dig x with
  | true =>
   have e : low x = true := by simp [low, a0, a1]
   rw [e]
   go_enter Tryz.func64, Tryz.ntmps64
   go_wp2_with (first | (go_at_call 59; (with_reducible refine (kind_digit x _).mono ?_); rintro e w1 ⟨rfl, y, rfl⟩))
   go_ret
   exact ⟨rfl, y, rfl⟩
  | false =>
   have e : low x = false := by simp [low, a0, a1]
   rw [e]
   go_enter Tryz.func64, Tryz.ntmps64
   go_wp2_with (first | (go_at_call 59; (with_reducible refine (kind_digit x _).mono ?_); rintro e w1 ⟨rfl, y, rfl⟩))
   go_ret
   exact ⟨rfl, y, rfl⟩

theorem kind_alnum : Kind 75 aln := by
 intro x w
 cases a0 : low x with
 | true =>
  have e : aln x = true := by simp [aln, a0]
  rw [e]
  go_enter Tryz.func75, Tryz.ntmps75
  go_wp2_with (first | (go_at_call 64; (with_reducible refine (kind_lower x _).mono ?_); rintro e w1 ⟨rfl, y, rfl⟩))
  go_ret
  exact ⟨rfl, y, rfl⟩
 | false =>
  by_cases a1 : 65 ≤ x
  ·have a1' : (65 : Int) ≤ (x : Int) := by omega
   have c1 : decide ((65 : Int) ≤ (x : Int)) = true := decide_eq_true a1'
   by_cases b1 : x ≤ 90
   ·have b1' : (x : Int) ≤ 90 := by omega
    have d1 : decide ((x : Int) ≤ 90) = true := decide_eq_true b1'
    have e : aln x = true := by simp [aln, a0, a1, b1]
    rw [e]
    go_enter Tryz.func75, Tryz.ntmps75
    go_wp2_with (first | (go_at_call 64; (with_reducible refine (kind_lower x _).mono ?_); rintro e w1 ⟨rfl, y, rfl⟩))
    go_ret
    exact ⟨rfl, y, rfl⟩
   ·have b1' : ¬ (x : Int) ≤ 90 := by omega
    have d1 : decide ((x : Int) ≤ 90) = false := decide_eq_false b1'
    have e : aln x = false := by simp [aln, a0, b1]
    rw [e]
    go_enter Tryz.func75, Tryz.ntmps75
    go_wp2_with (first | (go_at_call 64; (with_reducible refine (kind_lower x _).mono ?_); rintro e w1 ⟨rfl, y, rfl⟩))
    go_ret
    exact ⟨rfl, y, rfl⟩
  ·have a1' : ¬ (65 : Int) ≤ (x : Int) := by omega
   have c1 : decide ((65 : Int) ≤ (x : Int)) = false := decide_eq_false a1'
   have e : aln x = false := by simp [aln, a0, a1]
   rw [e]
   go_enter Tryz.func75, Tryz.ntmps75
   go_wp2_with (first | (go_at_call 64; (with_reducible refine (kind_lower x _).mono ?_); rintro e w1 ⟨rfl, y, rfl⟩))
   go_ret
   exact ⟨rfl, y, rfl⟩

theorem kind_word : Kind 57 wrd := by
 intro x w
 cases a0 : aln x with
 | true =>
  have e : wrd x = true := by simp [wrd, a0]
  rw [e]
  go_enter Tryz.func57, Tryz.ntmps57
  go_wp2_with (first | (go_at_call 75; (with_reducible refine (kind_alnum x _).mono ?_); rintro e w1 ⟨rfl, y, rfl⟩))
  go_ret
  exact ⟨rfl, y, rfl⟩
 | false =>
  by_cases a1 : x = 95
  ·have a1' : (x : Int) = 95 := by omega
   have c1 : ((x : Int) == 95) = true := by simp; omega
   have e : wrd x = true := by simp [wrd, a0, a1]
   rw [e]
   clear e a1 a1'
   go_enter Tryz.func57, Tryz.ntmps57
   go_wp2_with (first | (go_at_call 75; (with_reducible refine (kind_alnum x _).mono ?_); rintro e w1 ⟨rfl, y, rfl⟩))
   go_ret
   exact ⟨rfl, y, rfl⟩
  ·have a1' : ¬ (x : Int) = 95 := by omega
   have c1 : ((x : Int) == 95) = false := by simp; omega
   have e : wrd x = false := by simp [wrd, a0, a1]
   rw [e]
   go_enter Tryz.func57, Tryz.ntmps57
   go_wp2_with (first | (go_at_call 75; (with_reducible refine (kind_alnum x _).mono ?_); rintro e w1 ⟨rfl, y, rfl⟩))
   go_ret
   exact ⟨rfl, y, rfl⟩

theorem kind_hex : Kind 55 hex := by
 intro x w
 cases a0 : dig x with
 | true =>
  have e : hex x = true := by simp [hex, a0]
  rw [e]
  go_enter Tryz.func55, Tryz.ntmps55
  go_wp2_with (first | (go_at_call 59; (with_reducible refine (kind_digit x _).mono ?_); rintro e w1 ⟨rfl, y, rfl⟩))
  go_ret
  exact ⟨rfl, y, rfl⟩
 | false =>
  by_cases a1 : 97 ≤ x
  ·have a1' : (97 : Int) ≤ (x : Int) := by omega
   have c1 : decide ((97 : Int) ≤ (x : Int)) = true := decide_eq_true a1'
   by_cases b1 : x ≤ 102
   ·have b1' : (x : Int) ≤ 102 := by omega
    have d1 : decide ((x : Int) ≤ 102) = true := decide_eq_true b1'
    have e : hex x = true := by simp [hex, a0, a1, b1]
    rw [e]
    go_enter Tryz.func55, Tryz.ntmps55
    go_wp2_with (first | (go_at_call 59; (with_reducible refine (kind_digit x _).mono ?_); rintro e w1 ⟨rfl, y, rfl⟩))
    go_ret
    exact ⟨rfl, y, rfl⟩
   ·have b1' : ¬ (x : Int) ≤ 102 := by omega
    have d1 : decide ((x : Int) ≤ 102) = false := decide_eq_false b1'
    by_cases a2 : 65 ≤ x
    ·have a2' : (65 : Int) ≤ (x : Int) := by omega
     have c2 : decide ((65 : Int) ≤ (x : Int)) = true := decide_eq_true a2'
     by_cases b2 : x ≤ 70
     ·have b2' : (x : Int) ≤ 70 := by omega
      have d2 : decide ((x : Int) ≤ 70) = true := decide_eq_true b2'
      have e : hex x = true := by simp [hex, a0, b1, a2, b2]
      rw [e]
      go_enter Tryz.func55, Tryz.ntmps55
      go_wp2_with (first | (go_at_call 59; (with_reducible refine (kind_digit x _).mono ?_); rintro e w1 ⟨rfl, y, rfl⟩))
      go_ret
      exact ⟨rfl, y, rfl⟩
     ·have b2' : ¬ (x : Int) ≤ 70 := by omega
      have d2 : decide ((x : Int) ≤ 70) = false := decide_eq_false b2'
      have e : hex x = false := by simp [hex, a0, b1, b2]
      rw [e]
      go_enter Tryz.func55, Tryz.ntmps55
      go_wp2_with (first | (go_at_call 59; (with_reducible refine (kind_digit x _).mono ?_); rintro e w1 ⟨rfl, y, rfl⟩))
      go_ret
      exact ⟨rfl, y, rfl⟩
    ·have a2' : ¬ (65 : Int) ≤ (x : Int) := by omega
     have c2 : decide ((65 : Int) ≤ (x : Int)) = false := decide_eq_false a2'
     have e : hex x = false := by simp [hex, a0, b1, a2]
     rw [e]
     go_enter Tryz.func55, Tryz.ntmps55
     go_wp2_with (first | (go_at_call 59; (with_reducible refine (kind_digit x _).mono ?_); rintro e w1 ⟨rfl, y, rfl⟩))
     go_ret
     exact ⟨rfl, y, rfl⟩
  ·have a1' : ¬ (97 : Int) ≤ (x : Int) := by omega
   have c1 : decide ((97 : Int) ≤ (x : Int)) = false := decide_eq_false a1'
   by_cases a2 : 65 ≤ x
   ·have a2' : (65 : Int) ≤ (x : Int) := by omega
    have c2 : decide ((65 : Int) ≤ (x : Int)) = true := decide_eq_true a2'
    by_cases b2 : x ≤ 70
    ·have b2' : (x : Int) ≤ 70 := by omega
     have d2 : decide ((x : Int) ≤ 70) = true := decide_eq_true b2'
     have e : hex x = true := by simp [hex, a0, a1, a2, b2]
     rw [e]
     go_enter Tryz.func55, Tryz.ntmps55
     go_wp2_with (first | (go_at_call 59; (with_reducible refine (kind_digit x _).mono ?_); rintro e w1 ⟨rfl, y, rfl⟩))
     go_ret
     exact ⟨rfl, y, rfl⟩
    ·have b2' : ¬ (x : Int) ≤ 70 := by omega
     have d2 : decide ((x : Int) ≤ 70) = false := decide_eq_false b2'
     have e : hex x = false := by simp [hex, a0, a1, b2]
     rw [e]
     go_enter Tryz.func55, Tryz.ntmps55
     go_wp2_with (first | (go_at_call 59; (with_reducible refine (kind_digit x _).mono ?_); rintro e w1 ⟨rfl, y, rfl⟩))
     go_ret
     exact ⟨rfl, y, rfl⟩
   ·have a2' : ¬ (65 : Int) ≤ (x : Int) := by omega
    have c2 : decide ((65 : Int) ≤ (x : Int)) = false := decide_eq_false a2'
    have e : hex x = false := by simp [hex, a0, a1, a2]
    rw [e]
    go_enter Tryz.func55, Tryz.ntmps55
    go_wp2_with (first | (go_at_call 59; (with_reducible refine (kind_digit x _).mono ?_); rintro e w1 ⟨rfl, y, rfl⟩))
    go_ret
    exact ⟨rfl, y, rfl⟩

theorem kind_shx : Kind 65 shx := by
 intro x w
 cases a0 : dig x with
 | true =>
  have e : shx x = true := by simp [shx, a0]
  rw [e]
  go_enter Tryz.func65, Tryz.ntmps65
  go_wp2_with (first | (go_at_call 59; (with_reducible refine (kind_digit x _).mono ?_); rintro e w1 ⟨rfl, y, rfl⟩))
  go_ret
  exact ⟨rfl, y, rfl⟩
 | false =>
  by_cases a1 : 97 ≤ x
  ·have a1' : (97 : Int) ≤ (x : Int) := by omega
   have c1 : decide ((97 : Int) ≤ (x : Int)) = true := decide_eq_true a1'
   by_cases b1 : x ≤ 102
   ·have b1' : (x : Int) ≤ 102 := by omega
    have d1 : decide ((x : Int) ≤ 102) = true := decide_eq_true b1'
    have e : shx x = true := by simp [shx, a0, a1, b1]
    rw [e]
    go_enter Tryz.func65, Tryz.ntmps65
    go_wp2_with (first | (go_at_call 59; (with_reducible refine (kind_digit x _).mono ?_); rintro e w1 ⟨rfl, y, rfl⟩))
    go_ret
    exact ⟨rfl, y, rfl⟩
   ·have b1' : ¬ (x : Int) ≤ 102 := by omega
    have d1 : decide ((x : Int) ≤ 102) = false := decide_eq_false b1'
    have e : shx x = false := by simp [shx, a0, b1]
    rw [e]
    go_enter Tryz.func65, Tryz.ntmps65
    go_wp2_with (first | (go_at_call 59; (with_reducible refine (kind_digit x _).mono ?_); rintro e w1 ⟨rfl, y, rfl⟩))
    go_ret
    exact ⟨rfl, y, rfl⟩
  ·have a1' : ¬ (97 : Int) ≤ (x : Int) := by omega
   have c1 : decide ((97 : Int) ≤ (x : Int)) = false := decide_eq_false a1'
   have e : shx x = false := by simp [shx, a0, a1]
   rw [e]
   go_enter Tryz.func65, Tryz.ntmps65
   go_wp2_with (first | (go_at_call 59; (with_reducible refine (kind_digit x _).mono ?_); rintro e w1 ⟨rfl, y, rfl⟩))
   go_ret
   exact ⟨rfl, y, rfl⟩

theorem kind_tch : Kind 56 tch := by
 intro x w
 cases a0 : wrd x with
 | true =>
  have e : tch x = true := by simp [tch, is, a0]
  rw [e]
  go_enter Tryz.func56, Tryz.ntmps56
  go_wp2_with (first | (go_at_call 57; (with_reducible refine (kind_word x _).mono ?_); rintro e w1 ⟨rfl, y, rfl⟩))
  go_ret
  exact ⟨rfl, y, rfl⟩
 | false =>
  by_cases a1 : x = 46
  ·have a1' : (x : Int) = 46 := by omega
   have c1 : ((x : Int) == 46) = true := by simp; omega
   have e : tch x = true := by simp [tch, is, a0, a1]
   rw [e]
   clear e a1 a1'
   go_enter Tryz.func56, Tryz.ntmps56
   go_wp2_with (first | (go_at_call 57; (with_reducible refine (kind_word x _).mono ?_); rintro e w1 ⟨rfl, y, rfl⟩))
   go_ret
   exact ⟨rfl, y, rfl⟩
  ·have a1' : ¬ (x : Int) = 46 := by omega
   have c1 : ((x : Int) == 46) = false := by simp; omega
   by_cases a2 : x = 45
   ·have a2' : (x : Int) = 45 := by omega
    have c2 : ((x : Int) == 45) = true := by simp; omega
    have e : tch x = true := by simp [tch, is, a0, a1, a2]
    rw [e]
    clear e a2 a2'
    go_enter Tryz.func56, Tryz.ntmps56
    go_wp2_with (first | (go_at_call 57; (with_reducible refine (kind_word x _).mono ?_); rintro e w1 ⟨rfl, y, rfl⟩))
    go_ret
    exact ⟨rfl, y, rfl⟩
   ·have a2' : ¬ (x : Int) = 45 := by omega
    have c2 : ((x : Int) == 45) = false := by simp; omega
    have e : tch x = false := by simp [tch, is, a0, a1, a2]
    rw [e]
    go_enter Tryz.func56, Tryz.ntmps56
    go_wp2_with (first | (go_at_call 57; (with_reducible refine (kind_word x _).mono ?_); rintro e w1 ⟨rfl, y, rfl⟩))
    go_ret
    exact ⟨rfl, y, rfl⟩

theorem kind_dfx : Kind 63 dfx := by
 intro x w
 cases a0 : wrd x with
 | true =>
  have e : dfx x = true := by simp [dfx, is, a0]
  rw [e]
  go_enter Tryz.func63, Tryz.ntmps63
  go_wp2_with (first | (go_at_call 57; (with_reducible refine (kind_word x _).mono ?_); rintro e w1 ⟨rfl, y, rfl⟩))
  go_ret
  exact ⟨rfl, y, rfl⟩
 | false =>
  by_cases a1 : x = 61
  ·have a1' : (x : Int) = 61 := by omega
   have c1 : ((x : Int) == 61) = true := by simp; omega
   have e : dfx x = true := by simp [dfx, is, a0, a1]
   rw [e]
   clear e a1 a1'
   go_enter Tryz.func63, Tryz.ntmps63
   go_wp2_with (first | (go_at_call 57; (with_reducible refine (kind_word x _).mono ?_); rintro e w1 ⟨rfl, y, rfl⟩))
   go_ret
   exact ⟨rfl, y, rfl⟩
  ·have a1' : ¬ (x : Int) = 61 := by omega
   have c1 : ((x : Int) == 61) = false := by simp; omega
   by_cases a2 : x = 45
   ·have a2' : (x : Int) = 45 := by omega
    have c2 : ((x : Int) == 45) = true := by simp; omega
    have e : dfx x = true := by simp [dfx, is, a0, a1, a2]
    rw [e]
    clear e a2 a2'
    go_enter Tryz.func63, Tryz.ntmps63
    go_wp2_with (first | (go_at_call 57; (with_reducible refine (kind_word x _).mono ?_); rintro e w1 ⟨rfl, y, rfl⟩))
    go_ret
    exact ⟨rfl, y, rfl⟩
   ·have a2' : ¬ (x : Int) = 45 := by omega
    have c2 : ((x : Int) == 45) = false := by simp; omega
    have e : dfx x = false := by simp [dfx, is, a0, a1, a2]
    rw [e]
    go_enter Tryz.func63, Tryz.ntmps63
    go_wp2_with (first | (go_at_call 57; (with_reducible refine (kind_word x _).mono ?_); rintro e w1 ⟨rfl, y, rfl⟩))
    go_ret
    exact ⟨rfl, y, rfl⟩

theorem kind_hcl : Kind 77 hcl := by
 intro x w
 cases a0 : hex x with
 | true =>
  have e : hcl x = true := by simp [hcl, is, a0]
  rw [e]
  go_enter Tryz.func77, Tryz.ntmps77
  go_wp2_with (first | (go_at_call 55; (with_reducible refine (kind_hex x _).mono ?_); rintro e w1 ⟨rfl, y, rfl⟩))
  go_ret
  exact ⟨rfl, y, rfl⟩
 | false =>
  by_cases a1 : x = 58
  ·have a1' : (x : Int) = 58 := by omega
   have c1 : ((x : Int) == 58) = true := by simp; omega
   have e : hcl x = true := by simp [hcl, is, a0, a1]
   rw [e]
   clear e a1 a1'
   go_enter Tryz.func77, Tryz.ntmps77
   go_wp2_with (first | (go_at_call 55; (with_reducible refine (kind_hex x _).mono ?_); rintro e w1 ⟨rfl, y, rfl⟩))
   go_ret
   exact ⟨rfl, y, rfl⟩
  ·have a1' : ¬ (x : Int) = 58 := by omega
   have c1 : ((x : Int) == 58) = false := by simp; omega
   have e : hcl x = false := by simp [hcl, is, a0, a1]
   rw [e]
   go_enter Tryz.func77, Tryz.ntmps77
   go_wp2_with (first | (go_at_call 55; (with_reducible refine (kind_hex x _).mono ?_); rintro e w1 ⟨rfl, y, rfl⟩))
   go_ret
   exact ⟨rfl, y, rfl⟩

theorem kind_anh : Kind 93 anh := by
 intro x w
 cases a0 : aln x with
 | true =>
  have e : anh x = true := by simp [anh, is, a0]
  rw [e]
  go_enter Tryz.func93, Tryz.ntmps93
  go_wp2_with (first | (go_at_call 75; (with_reducible refine (kind_alnum x _).mono ?_); rintro e w1 ⟨rfl, y, rfl⟩))
  go_ret
  exact ⟨rfl, y, rfl⟩
 | false =>
  by_cases a1 : x = 45
  ·have a1' : (x : Int) = 45 := by omega
   have c1 : ((x : Int) == 45) = true := by simp; omega
   have e : anh x = true := by simp [anh, is, a0, a1]
   rw [e]
   clear e a1 a1'
   go_enter Tryz.func93, Tryz.ntmps93
   go_wp2_with (first | (go_at_call 75; (with_reducible refine (kind_alnum x _).mono ?_); rintro e w1 ⟨rfl, y, rfl⟩))
   go_ret
   exact ⟨rfl, y, rfl⟩
  ·have a1' : ¬ (x : Int) = 45 := by omega
   have c1 : ((x : Int) == 45) = false := by simp; omega
   have e : anh x = false := by simp [anh, is, a0, a1]
   rw [e]
   go_enter Tryz.func93, Tryz.ntmps93
   go_wp2_with (first | (go_at_call 75; (with_reducible refine (kind_alnum x _).mono ?_); rintro e w1 ⟨rfl, y, rfl⟩))
   go_ret
   exact ⟨rfl, y, rfl⟩

theorem kind_hyp : Kind 94 (is 45) := by
 intro x w
 by_cases a0 : x = 45
 ·have a0' : (x : Int) = 45 := by omega
  have c0 : ((x : Int) == 45) = true := by simp; omega
  have e : (is 45) x = true := by simp [is, a0]
  rw [e]
  clear e a0 a0'
  go_enter Tryz.func94, Tryz.ntmps94
  go_wp2
  go_ret
  exact ⟨rfl, Ext.here _⟩
 ·have a0' : ¬ (x : Int) = 45 := by omega
  have c0 : ((x : Int) == 45) = false := by simp; omega
  have e : (is 45) x = false := by simp [is, a0]
  rw [e]
  go_enter Tryz.func94, Tryz.ntmps94
  go_wp2
  go_ret
  exact ⟨rfl, Ext.here _⟩

theorem kind_nlow : Kind 79 nlow := by
 intro x w
 unfold nlow
 cases a0 : low x with
 | true =>
  go_enter Tryz.func79, Tryz.ntmps79
  go_wp2_with (first | (go_at_call 64; (with_reducible refine (kind_lower x _).mono ?_); rintro e w1 ⟨rfl, y, rfl⟩))
  go_ret
  exact ⟨rfl, y, rfl⟩
 | false =>
  go_enter Tryz.func79, Tryz.ntmps79
  go_wp2_with (first | (go_at_call 64; (with_reducible refine (kind_lower x _).mono ?_); rintro e w1 ⟨rfl, y, rfl⟩))
  go_ret
  exact ⟨rfl, y, rfl⟩

end Go.Proofs.YtkbmigfkclnlaaaGreatDoor
namespace Go.Proofs.YtkbmigfkclnlaaaGreatDoor
open Go.RowKit Go.Rx
attribute [local go_sem] Ext.cell Ext.frozen Ext.lt Ext.lt_add Ext.cell2 Ext.frozen2

theorem oinst_any (r : Run) (h : RunOk r) (ao no : Option Addr) (m c nm nk : Nat) (dn : Int) (k : Nat) (hk : k < r.n) (w : World) :
  Calls Tryz.prog 68 #[.agg #[.int .i64 r.n, .int .u8 r.op, .int .i64 r.out, .int .i64 r.dout, .int .i64 r.arg, .int .i64 r.darg, .slice ao m c, .slice no nm nk, .int .i64 dn], .int .i64 k] w fun e w' => e = .returned (.agg #[.int .u8 (r.inst k).op, .int .u32 (r.inst k).out, .int .u32 (r.inst k).arg, .slice ao m c]) ∧ ∃ x : Ext w, w' = x.now := by
 obtain ⟨o1, o2⟩ := h.out k hk
 obtain ⟨a1, a2⟩ := h.arg k hk
 have hn := h.n
 obtain ⟨o, ho⟩ : ∃ o, (r.inst k).out = o := ⟨_, rfl⟩
 obtain ⟨a, ha⟩ : ∃ a, (r.inst k).arg = a := ⟨_, rfl⟩
 rw [ho] at o1 o2 ⊢
 rw [ha] at a1 a2 ⊢
 have e0 : (r.inst k).op = r.op := rfl
 rw [e0]
 obtain ⟨n, op, out, dout, arg, darg, rune⟩ := r
 dsimp only at *
 have h3 := h.op
 obtain ⟨l1, l2⟩ := h.lim
 dsimp only at h3 l1 l2
 clear h ho ha e0
 go_enter Tryz.func68, Tryz.ntmps68
 go_wp2_with fail
 exact bodyPost_ret (v := .agg #[.int .u8 op, .int .u32 o, .int .u32 a, .slice ao m c]) (by simp [results, Tryz.results68, go_sem]) rfl ⟨rfl, Ext.alloc2 _ _ _⟩

set_option maxRecDepth 1000000 in
set_option maxHeartbeats 4000000 in
theorem ozz_insts (w : World) (B : Nat) (l : List (Run × Sl)) (c : Nat) (hB : RunsAt w B l) (hBl : B < w.heap.size) (hok : ∀ x, x ∈ l → RunOk x.1) (hl : l.length ≤ 1000) :
  Calls Tryz.prog 42 #[.slice (some ⟨B, 0, none⟩) l.length c] w fun e w' => ∃ v, e = .returned v ∧ Wrote w l l.length v w' := by
 have HB := Lib.hid hB
 have HK := Lib.hid hok
 have HT := Lib.hid (total_le (l.take l.length) (fun x hx => hok x (List.mem_of_mem_take hx)))
 clear hB hok
 go_enter Tryz.func42, Tryz.ntmps42
 go_wp2_with fail
 go_loopw [3, 9] (fun v t wr => ∃ i : Nat, i ≤ l.length ∧ t = .int .i64 i ∧ Wrote w l i v wr) (fun _ t _ => l.length - (intOf t).toNat)
 case atStart => exact ⟨0, Nat.zero_le _, rfl, by simpa [total, allCells] using World.ownsRow_nil w w.heap.size 122 4, Ext.refl w, rfl⟩
 case round =>
  obtain ⟨i, hi, rfl, hown, x, rfl⟩ := hrel
  by_cases hlt : i < l.length
  ·have hlt' : (i : Int) < (l.length : Int) := by omega
   obtain ⟨y, hy⟩ : ∃ y, l[i]? = some y := ⟨_, List.getElem?_eq_getElem hlt⟩
   have hyo := HK.out y (List.mem_of_getElem? hy)
   have hyn := hyo.n
   have hRA := HB.out i y hy
   have cc : ∀ j u, (runCells y.1 (slV y.2))[j]? = some u → x.now.cell? ⟨B, i * 9 + j, none⟩ = some u := fun j u h => by rw [x.cell B (i * 9 + j) hBl]; exact hRA j u h
   have hT0 : total (l.take i) ≤ 1000000 := by
    have := total_le (l.take i) (fun x hx => HK.out x (List.mem_of_mem_take hx))
    rw [List.length_take] at this
    have : min i l.length ≤ 1000 := by omega
    omega
   obtain ⟨r, ao, m, cv⟩ := y
   obtain ⟨n, op, out, dout, arg, darg, rune⟩ := r
   have c0 := cc 0 _ rfl
   have c1 := cc 1 _ rfl
   have c2 := cc 2 _ rfl
   have c3 := cc 3 _ rfl
   have c4 := cc 4 _ rfl
   have c5 := cc 5 _ rfl
   have c6 := cc 6 _ rfl
   have c7 := cc 7 _ rfl
   have c8 := cc 8 _ rfl
   simp only [Nat.add_zero, slV] at c0 c1 c2 c3 c4 c5 c6 c7 c8
   dsimp only at hyn
   have HY := Lib.hid hyo
   have HYI := Lib.hid hy
   have HOWN := Lib.hid hown
   have hBx := x.lt B hBl
   clear hyo hy hRA cc hown
   go_wp2_with fail
   obtain ⟨w1, hw1⟩ : ∃ w1, w1 = x.now.alloc (Obj.cells #[.int .i64 n, .int .u8 op, .int .i64 out, .int .i64 dout, .int .i64 arg, .int .i64 darg, .slice ao m cv, .slice none 0 0, .int .i64 0] 79) := ⟨_, rfl⟩
   obtain ⟨BV, hBV⟩ : ∃ BV, x.now.heap.size = BV := ⟨_, rfl⟩
   rw [← hw1, hBV]
   have bBV : Blk w1 BV [.int .i64 n, .int .u8 op, .int .i64 out, .int .i64 dout, .int .i64 arg, .int .i64 darg, .slice ao m cv, .slice none 0 0, .int .i64 0] 79 := by rw [hw1, ← hBV]; exact Blk.new _ _ _
   have own1 : w1.ownsRow w.heap.size 122 4 u3 (total (l.take i)) (allCells (l.take i)) := by rw [hw1]; exact HOWN.out.alloc _
   have hne : u3.ownBlock ≠ some BV := fun e => by have := (HOWN.out.lt BV e).2; omega
   have hx1 : ∃ y : Ext w, w1 = y.now := by rw [hw1]; exact Ext.both x (Ext.one x.now _)
   have W1 := Lib.hid bBV
   have W2 := Lib.hid own1
   have W3 := Lib.hid hx1
   clear hw1 bBV own1 hx1 c0 c1 c2 c3 c4 c5 c6 c7 c8
   go_loopw [3, 6] (fun v t wr => ∃ k : Nat, k ≤ n ∧ t = .int .i64 k ∧ WroteIn w l i (⟨n, op, out, dout, arg, darg, rune⟩, ao, m, cv) k v wr ∧ Blk wr BV [.int .i64 n, .int .u8 op, .int .i64 out, .int .i64 dout, .int .i64 arg, .int .i64 darg, .slice ao m cv, .slice none 0 0, .int .i64 0] 79 ∧ v.ownBlock ≠ some BV) (fun _ t _ => n - (intOf t).toNat)
   case atStart => exact ⟨0, Nat.zero_le _, rfl, ⟨by simpa [rowCells] using W2.out, W3.out⟩, W1.out, hne⟩
   case round =>
    obtain ⟨k, hk, rfl, ⟨hwo, y, rfl⟩, hbv, hnb⟩ := hrel
    have d0 : y.now.cell? ⟨BV, 0, none⟩ = some (.int .i64 n) := (hbv.cell 0).trans rfl
    have d1 : y.now.cell? ⟨BV, 1, none⟩ = some (.int .u8 op) := (hbv.cell 1).trans rfl
    have d2 : y.now.cell? ⟨BV, 2, none⟩ = some (.int .i64 out) := (hbv.cell 2).trans rfl
    have d3 : y.now.cell? ⟨BV, 3, none⟩ = some (.int .i64 dout) := (hbv.cell 3).trans rfl
    have d4 : y.now.cell? ⟨BV, 4, none⟩ = some (.int .i64 arg) := (hbv.cell 4).trans rfl
    have d5 : y.now.cell? ⟨BV, 5, none⟩ = some (.int .i64 darg) := (hbv.cell 5).trans rfl
    have d6 : y.now.cell? ⟨BV, 6, none⟩ = some (.slice ao m cv) := (hbv.cell 6).trans rfl
    have d7 : y.now.cell? ⟨BV, 7, none⟩ = some (.slice none 0 0) := (hbv.cell 7).trans rfl
    have d8 : y.now.cell? ⟨BV, 8, none⟩ = some (.int .i64 0) := (hbv.cell 8).trans rfl
    have hBVl := hbv.lt
    have V1 := Lib.hid hwo
    have V2 := Lib.hid hbv
    have V3 := Lib.hid hnb
    clear hwo hbv hnb
    by_cases hkn : k < n
    ·have hkn' : (k : Int) < (n : Int) := by omega
     have hinst := oinst_any ⟨n, op, out, dout, arg, darg, rune⟩ HY.out ao none m cv 0 0 0 k hkn y.now
     dsimp only at hinst
     have HI := Lib.hid hinst
     clear hinst
     go_wp2_with (first | (go_at_call 68; (with_reducible refine HI.out.mono ?_); rintro e w2 ⟨rfl, z, rfl⟩) | (at_builtin; refine inst_append _ rfl _ _ rfl w.heap.size (total (l.take i) + k) u3 (allCells (l.take i) ++ rowCells (⟨n, op, out, dout, arg, darg, rune⟩, ao, m, cv) k) rfl ((own_chg_any V1.out (Chg.of_below z.below) (fun b _ => by simp)).alloc _) ⟨z.now.heap.size, 0, none⟩ 1 (instCells (Run.inst ⟨n, op, out, dout, arg, darg, rune⟩ k) (.slice ao m cv)) rfl rfl (by intro j u hu; match j, hu with | 0, hu => simpa [instCells, Addr.add] using hu | 1, hu => simpa [instCells, Addr.add] using hu | 2, hu => simpa [instCells, Addr.add] using hu | 3, hu => simpa [instCells, Addr.add] using hu | j + 4, hu => simp [instCells] at hu) (by intro u hu; simp [instCells] at hu; rcases hu with rfl | rfl | rfl | rfl <;> rfl) (by omega) (by simp; have := z.le; have := y.le; omega) ?_))
     intro g cap w3 hown3 hgr3 hat3
     have H1 := Lib.hid hown3
     have H2 := Lib.hid hgr3
     have H3 := Lib.hid hat3
     clear hown3 hgr3 hat3
     go_wp2_with fail
     have hz := z.le
     have ho0 : (z.now.alloc (Obj.cells (instCells (Run.inst ⟨n, op, out, dout, arg, darg, rune⟩ k) (.slice ao m cv)).toArray 122)).ownsRow w.heap.size 122 4 u3 (total (l.take i) + k) (allCells (l.take i) ++ rowCells (⟨n, op, out, dout, arg, darg, rune⟩, ao, m, cv) k) := (own_chg_any V1.out (Chg.of_below z.below) (fun b _ => by simp)).alloc _
     refine ⟨⟨k + 1, by omega, by simp, ⟨?_, ?_⟩, ?_, ?_⟩, by simp [intOf]; omega⟩
     ·rw [rowCells_succ]
      exact H1.out
     ·obtain ⟨yz, hyz⟩ := Ext.both y (z.trans (Ext.one z.now (Obj.cells (instCells (Run.inst ⟨n, op, out, dout, arg, darg, rune⟩ k) (.slice ao m cv)).toArray 122)))
      exact Ext.grown yz hyz ho0 H2.out
     ·refine Eq.trans ?_ ((V2.out.chg (Chg.of_below z.below) (by simp)).alloc (Obj.cells (instCells (Run.inst ⟨n, op, out, dout, arg, darg, rune⟩ k) (.slice ao m cv)).toArray 122))
      refine H2.out.block BV (by simp; omega) ?_
      exact fun e => V3.out e.symm
     ·intro e
      simp [Value.ownBlock] at e
      rcases H3.out with h | h
      ·exact V3.out (by rw [h, e])
      ·omega
    ·have hke : k = n := by omega
     subst hke
     have hkn' : ¬ (k : Int) < (k : Int) := by omega
     go_wp2_with fail
     refine ⟨⟨i + 1, by omega, by simp, ?_, y, rfl⟩, by simp [intOf]; omega⟩
     rw [allCells_take HYI.out, total_take HYI.out]
     exact V1.out
  ·have hil : i = l.length := by omega
   subst hil
   have hlt' : ¬ (l.length : Int) < (l.length : Int) := by omega
   have HOWN := Lib.hid hown
   clear hown
   go_wp2_with fail
   go_ret
   exact ⟨_, rfl, HOWN.out, x, rfl⟩


theorem onew_string (w : World) (B o : Nat) (s v : ByteArray) (h : w.cell? ⟨B, o, none⟩ = some (.string v)) (hf : w.frozen? ⟨B, o, none⟩ = false) (hB : B < w.heap.size) :
  Calls Tryz.prog 115 #[.pointer (some ⟨B, o, none⟩), .string s] w fun e w' => e = .returned (.iface 243 (.pointer (some ⟨B, o, none⟩))) ∧ w' = w.setCell ⟨B, o, none⟩ (.string s) := by
 go_enter Tryz.func115, Tryz.ntmps115
 go_wp2_with fail
 go_ret
 exact ⟨rfl, rfl⟩

theorem oinputs_init (w : World) (B o : Nat) (s v : ByteArray) (hs : s.size < 100000000000) (h : w.cell? ⟨B, o, none⟩ = some (.string v)) (hf : w.frozen? ⟨B, o, none⟩ = false) (hB : B < w.heap.size) :
  Calls Tryz.prog 96 #[.pointer (some ⟨B, o, none⟩), .nilIface, .slice none 0 0, .string s] w fun e w' => e = .returned (.tuple #[.iface 243 (.pointer (some ⟨B, o, none⟩)), .int .i64 s.size]) ∧ w' = w.setCell ⟨B, o, none⟩ (.string s) := by
 have hn := onew_string w B o s v h hf hB
 go_enter Tryz.func96, Tryz.ntmps96
 go_wp2_with (first | (go_at_call 115; (with_reducible refine hn.mono ?_); rintro e w' ⟨rfl, rfl⟩))
 go_ret2
 exact ⟨rfl, rfl⟩

theorem oinputs_clear (w : World) (B o : Nat) (v : ByteArray) (h : w.cell? ⟨B, o, none⟩ = some (.string v)) (hf : w.frozen? ⟨B, o, none⟩ = false) (hB : B < w.heap.size) :
  Calls Tryz.prog 118 #[.pointer (some ⟨B, o, none⟩)] w fun e w' => e = .returned (.tuple #[]) ∧ w' = w.setCell ⟨B, o, none⟩ (.string ByteArray.empty) := by
 go_enter Tryz.func118, Tryz.ntmps118
 go_wp2_with fail
 go_end0
 exact ⟨rfl, rfl⟩

theorem ostep_in {o : Nat} (B pos : Nat) (s : ByteArray) (w : World) (hs : w.cell? ⟨B, o, none⟩ = some (.string s)) (hpos : pos < s.size) (hb : (s[pos]'hpos).toNat < 128) (hsz : s.size < 100000000000) :
  Calls Tryz.prog 184 #[.pointer (some ⟨B, o, none⟩), .int .i64 pos] w fun e w' => e = .returned (.tuple #[.int .i32 ((s[pos]'hpos).toNat : Nat), .int .i64 1]) ∧ w' = w := by
 have h0 : 0 < (s.extract pos s.size).size := by simp [ByteArray.size_extract]; omega
 have hat : (s.extract pos s.size)[0]'h0 = s[pos]'hpos := by simp [ByteArray.getElem_extract]
 have hd := dec_plain (s.extract pos s.size) w h0 (by rw [hat]; exact hb)
 rw [hat] at hd
 go_enter Tryz.func184, Tryz.ntmps184
 go_wp2_with (first | (go_at_call 176; (with_reducible refine hd.mono ?_); rintro e w' ⟨rfl, rfl⟩))
 go_ret2
 exact ⟨rfl, rfl⟩

theorem ostep_end {o : Nat} (B pos : Nat) (s : ByteArray) (w : World) (hs : w.cell? ⟨B, o, none⟩ = some (.string s)) (hpos : ¬ pos < s.size) :
  Calls Tryz.prog 184 #[.pointer (some ⟨B, o, none⟩), .int .i64 pos] w fun e w' => e = .returned (.tuple #[.int .i32 (-1), .int .i64 0]) ∧ w' = w := by
 go_enter Tryz.func184, Tryz.ntmps184
 go_wp2_with fail
 go_ret2
 exact ⟨rfl, rfl⟩

theorem ostep_at {o : Nat} (B p : Nat) (s : ByteArray) (hs : Plain s) (hsz : s.size < 100000000000) (w : World) (h : w.cell? ⟨B, o, none⟩ = some (.string s)) :
  Calls Tryz.prog 184 #[.pointer (some ⟨B, o, none⟩), .int .i64 p] w fun e w' => e = .returned (.tuple #[.int .i32 (runeAt s p), .int .i64 (wdAt s p : Nat)]) ∧ w' = w := by
 by_cases hp : p < s.size
 ·rw [wdAt_in hp]
  have e : runeAt s p = ((s[p]'hp).toNat : Nat) := by unfold runeAt; rw [dif_pos hp]
  rw [e]
  exact ostep_in B p s w h hp (hs p hp) hsz
 ·rw [wdAt_out hp, runeAt_out hp]
  exact ostep_end B p s w h hp


theorem oflag_new (r1 r2 : Int) (w : World) : Calls Tryz.prog 97 #[.int .i32 r1, .int .i32 r2] w fun e w' => e = .returned (.int .u64 (flagOf r1 r2)) ∧ w' = w := by
 go_enter Tryz.func97, Tryz.ntmps97
 go_wp2_with fail
 go_ret
 exact ⟨rfl, rfl⟩

theorem oflag_begin (f : Int) (w : World) : Calls Tryz.prog 98 #[.int .u64 f, .int .u8 4] w fun e w' => e = .returned (.bool (decide (wrap32 (f / 4294967296) < 0))) ∧ w' = w := by
 by_cases h : wrap32 (f / 4294967296) < 0
 ·rw [decide_eq_true h]
  go_enter Tryz.func98, Tryz.ntmps98
  go_wp2_with fail
  go_ret
  exact ⟨rfl, rfl⟩
 ·rw [decide_eq_false h]
  have h' : 0 ≤ wrap32 (f / 4294967296) := by omega
  go_enter Tryz.func98, Tryz.ntmps98
  go_wp2_with fail
  go_ret
  exact ⟨rfl, rfl⟩

theorem oflag_end (f : Int) (w : World) : Calls Tryz.prog 98 #[.int .u64 f, .int .u8 8] w fun e w' => e = .returned (.bool (decide (wrap32 f < 0))) ∧ w' = w := by
 by_cases h : wrap32 f < 0
 ·rw [decide_eq_true h]
  go_enter Tryz.func98, Tryz.ntmps98
  go_wp2_with fail
  go_ret
  exact ⟨rfl, rfl⟩
 ·rw [decide_eq_false h]
  have h' : 0 ≤ wrap32 f := by omega
  go_enter Tryz.func98, Tryz.ntmps98
  go_wp2_with fail
  go_ret
  exact ⟨rfl, rfl⟩

theorem ofree (w : World) (B : Nat) (v : ByteArray) (h : w.cell? ⟨B, 0, none⟩ = some (.string v)) (hf : w.frozen? ⟨B, 0, none⟩ = false) (hB : B < w.heap.size) :
  Calls Tryz.prog 101 #[.pointer (some ⟨B, 0, none⟩)] w fun e w' => e = .returned (.tuple #[]) ∧ w' = w.setCell ⟨B, 0, none⟩ (.string ByteArray.empty) := by
 have hn := oinputs_clear w B 0 v h hf hB
 go_enter Tryz.func101, Tryz.ntmps101
 go_wp2_with (first | (go_at_call 118; (with_reducible refine hn.mono ?_); rintro e w' ⟨rfl, rfl⟩))
 go_end0
 exact ⟨rfl, rfl⟩

theorem onew (w : World) : Calls Tryz.prog 95 #[] w fun e w' => e = .returned (.pointer (some ⟨w.heap.size, 0, none⟩)) ∧
  Blk w' w.heap.size [.string ByteArray.empty, .slice none 0 0] 183 ∧ Chg [] w w' ∧ w'.heap.size = w.heap.size + 1 := by
 go_enter Tryz.func95, Tryz.ntmps95
 go_wp2_with fail
 go_ret
 exact ⟨rfl, Blk.new _ _ _, Chg.alloc _ _, by simp⟩

end Go.Proofs.YtkbmigfkclnlaaaGreatDoor
namespace Go.Proofs.YtkbmigfkclnlaaaGreatDoor
open Go.RowKit Go.Rx
attribute [local go_sem] Ext.cell Ext.frozen Ext.lt Ext.lt_add Ext.cell2 Ext.frozen2

abbrev ORun := (Run × Sl) × (Sl × Int)

def oCells (x : ORun) : List Value := [.int .i64 x.1.1.n, .int .u8 x.1.1.op, .int .i64 x.1.1.out, .int .i64 x.1.1.dout, .int .i64 x.1.1.arg, .int .i64 x.1.1.darg, slV x.1.2, slV x.2.1, .int .i64 x.2.2]

def NextAt (w : World) (s : Sl) : Prop := s = (none, 0, 0) ∨ ∃ b n, s = (some ⟨b, 0, none⟩, n, n) ∧ n ≤ 10 ∧ b < w.heap.size ∧ ∀ j, j < n → ∃ u : Nat, u ≤ 1000 ∧ w.cell? ⟨b, j, none⟩ = some (.int .u32 u)

structure ORunsAt (w : World) (B : Nat) (l : List ORun) : Prop where
 cell : ∀ (i : Nat) x, l[i]? = some x → ∀ (j : Nat) u, (oCells x)[j]? = some u → w.cell? ⟨B, i * 9 + j, none⟩ = some u
 next : ∀ x, x ∈ l → NextAt w x.2.1 ∧ 0 ≤ x.2.2 ∧ x.2.2 ≤ 1

theorem u32_one_append (w : World) {ops : Array Oper} {rest : List Oper} {o : Oper} {a : Act} {Q : Exit → Act → World → Prop} (hgd : o.guard = none) (s x : Operand)
  (ho : o.op = .call { callee := .builtin .append, args := #[s, x], argTypes := #[77, 77] }) (base n : Nat) (v : Value) (xs : List Value) (hs : a.eval s = v)
  (hown : w.ownsRow base 86 1 v n xs) (ad : Addr) (c : Nat) (u : Value) (hx : a.eval x = .slice (some ad) 1 c)
  (hu : w.cell? ad = some u) (h1 : u.oneCell' = true) (hn : n < 1000000000) (hbase : base ≤ w.heap.size)
  (h : ∀ g cap w', w'.ownsRow base 86 1 (.slice (some ⟨g, 0, none⟩) (n + 1) cap) (n + 1) (xs ++ [u]) → w.grownBy w' v.ownBlock → wpList Tryz.prog ops Q rest (a.put o.dst (.slice (some ⟨g, 0, none⟩) (n + 1) cap)) w') :
  wpList Tryz.prog ops Q (o :: rest) a w := by
 obtain ⟨i, hi, hz0, hz1, hz2⟩ := info_parts u32_info
 refine wpList_append_lies w hgd s x 77 ho base 86 i _ 1 4 (by kernel_rfl) hi hz0 hz1 hz2 rfl (by omega) v n xs hs hown ad 1 c [u] hx rfl (fun j v hj => ?_) (fun v hv => ?_) (by omega) (by simp [maxLen]; omega) (by omega) hbase _ rfl (fun g cap w' a1 a2 a3 _ => h g cap w' a1 a2)
 ·cases j with
  | zero =>
   simp at hj
   subst hj
   simpa [Addr.add] using hu
  | succ j => simp at hj
 ·simp at hv
  subst hv
  exact h1

theorem op_info : (Tryz.prog.info? 125).map (fun i => (i.zero, i.size, i.bytes)) = some (some (.agg #[.int .u8 0, .int .u32 0, .int .u32 0, .slice none 0 0, .slice none 0 0]), 5, 64) := by kernel_rfl

theorem op_append (w : World) {ops : Array Oper} {rest : List Oper} {o : Oper} {a : Act} {Q : Exit → Act → World → Prop} (hgd : o.guard = none) (s x : Operand)
  (ho : o.op = .call { callee := .builtin .append, args := #[s, x], argTypes := #[84, 84] }) (base n : Nat) (v : Value) (xs : List Value) (hs : a.eval s = v)
  (hown : w.ownsRow base 125 5 v n xs) (ad : Addr) (c : Nat) (news : List Value) (hx : a.eval x = .slice (some ad) 1 c) (hl : news.length = 5)
  (hnews : ∀ j u, news[j]? = some u → w.cell? (ad.add j) = some u) (h1 : ∀ u ∈ news, u.oneCell' = true) (hn : n < 1000000000) (hbase : base ≤ w.heap.size)
  (h : ∀ g cap w', w'.ownsRow base 125 5 (.slice (some ⟨g, 0, none⟩) (n + 1) cap) (n + 1) (xs ++ news) → w.grownBy w' v.ownBlock → (v.ownBlock = some g ∨ g = w.heap.size) → wpList Tryz.prog ops Q rest (a.put o.dst (.slice (some ⟨g, 0, none⟩) (n + 1) cap)) w') :
  wpList Tryz.prog ops Q (o :: rest) a w := by
 obtain ⟨i, hi, hz0, hz1, hz2⟩ := info_parts op_info
 exact wpList_append_lies w hgd s x 84 ho base 125 i _ 5 64 (by kernel_rfl) hi hz0 hz1 hz2 rfl (by omega) v n xs hs hown ad 1 c news hx (by simpa using hl) hnews h1 (by omega) (by simp [maxLen]; omega) (by omega) hbase _ rfl (fun g cap w' a1 a2 a3 _ => h g cap w' a1 a2 a3)

def cells5 (ps : List ((Run × Sl) × Nat)) (nx : List Value) : List Value := (ps.zip nx).flatMap fun y => instCells (y.1.1.1.inst y.1.2) (slV y.1.1.2) ++ [y.2]

theorem cells5_snoc (ps : List ((Run × Sl) × Nat)) (nx : List Value) (h : ps.length = nx.length) (y : (Run × Sl) × Nat) (v : Value) : cells5 (ps ++ [y]) (nx ++ [v]) = cells5 ps nx ++ (instCells (y.1.1.inst y.2) (slV y.1.2) ++ [v]) := by
 unfold cells5
 rw [List.zip_append h, List.flatMap_append]
 simp

def oPairs (l : List ORun) (i : Nat) : List ((Run × Sl) × Nat) := pairs ((l.map (·.1)).take i)
def rowPairs (x : Run × Sl) (k : Nat) : List ((Run × Sl) × Nat) := (List.range k).map fun j => (x, j)
theorem rowPairs_succ (x : Run × Sl) (k : Nat) : rowPairs x (k + 1) = rowPairs x k ++ [(x, k)] := by
 unfold rowPairs
 rw [List.range_succ, List.map_append]
 rfl
theorem oPairs_succ {l : List ORun} {i : Nat} {x : ORun} (h : l[i]? = some x) : oPairs l (i + 1) = oPairs l i ++ rowPairs x.1 x.1.1.n := by
 unfold oPairs pairs rowPairs
 rw [List.take_add_one, List.getElem?_map, h]
 simp
theorem pairs_len (l : List (Run × Sl)) : (pairs l).length = total l := by
 unfold pairs total
 rw [List.length_flatMap]
 simp

def Wrote5 (w : World) (ps : List ((Run × Sl) × Nat)) (v : Value) (wr : World) : Prop :=
 ∃ nx, ps.length = nx.length ∧ wr.ownsRow w.heap.size 125 5 v ps.length (cells5 ps nx) ∧ ∃ x : Ext w, wr = x.now

set_option maxRecDepth 1000000 in
set_option maxHeartbeats 4000000 in
theorem zz_one (w : World) (B : Nat) (l : List ORun) (c : Nat) (hB : ORunsAt w B l) (hBl : B < w.heap.size) (hok : ∀ x, x ∈ l → RunOk x.1.1) (hl : l.length ≤ 1000) :
  Calls Tryz.prog 43 #[.slice (some ⟨B, 0, none⟩) l.length c] w fun e w' => ∃ v, e = .returned v ∧ Wrote5 w (oPairs l l.length) v w' := by
 have HB := Lib.hid hB
 have HK := Lib.hid hok
 clear hB hok
 go_enter Tryz.func43, Tryz.ntmps43
 go_wp2_with fail
 go_loopw [3, 12] (fun v t wr => ∃ i : Nat, i ≤ l.length ∧ t = .int .i64 i ∧ Wrote5 w (oPairs l i) v wr) (fun _ t _ => l.length - (intOf t).toNat)
 case atStart => exact ⟨0, Nat.zero_le _, rfl, [], rfl, World.ownsRow_nil w w.heap.size 125 5, Ext.refl w, rfl⟩
 case round =>
  obtain ⟨i, hi, rfl, nx, hnx, hown, x, rfl⟩ := hrel
  by_cases hlt : i < l.length
  ·have hlt' : (i : Int) < (l.length : Int) := by omega
   obtain ⟨y, hy⟩ : ∃ y, l[i]? = some y := ⟨_, List.getElem?_eq_getElem hlt⟩
   have hym := List.mem_of_getElem? hy
   have hyo := HK.out y hym
   have hyn := hyo.n
   have hRA := HB.out.cell i y hy
   obtain ⟨hNA, hd0, hd1⟩ := HB.out.next y hym
   have cc : ∀ j u, (oCells y)[j]? = some u → x.now.cell? ⟨B, i * 9 + j, none⟩ = some u := fun j u h => by rw [x.cell B (i * 9 + j) hBl]; exact hRA j u h
   have hT0 : (oPairs l i).length ≤ 1000000 := by
    unfold oPairs
    rw [pairs_len]
    have h1 := total_le ((l.map (·.1)).take i) (fun z hz => by
     obtain ⟨q, hq, rfl⟩ := List.mem_map.1 (List.mem_of_mem_take hz)
     exact HK.out q hq)
    rw [List.length_take, List.length_map] at h1
    have : min i l.length ≤ 1000 := by omega
    omega
   obtain ⟨⟨r, ao, m, cv⟩, ⟨no, nm, nk⟩, dn⟩ := y
   obtain ⟨n, op, out, dout, arg, darg, rune⟩ := r
   have c0 := cc 0 _ rfl
   have c1 := cc 1 _ rfl
   have c2 := cc 2 _ rfl
   have c3 := cc 3 _ rfl
   have c4 := cc 4 _ rfl
   have c5 := cc 5 _ rfl
   have c6 := cc 6 _ rfl
   have c7 := cc 7 _ rfl
   have c8 := cc 8 _ rfl
   simp only [Nat.add_zero, slV] at c0 c1 c2 c3 c4 c5 c6 c7 c8
   dsimp only at hyn hd0 hd1
   have HY := Lib.hid hyo
   have HYI := Lib.hid hy
   have HOWN := Lib.hid hown
   have HNX := Lib.hid hnx
   have HNA := Lib.hid hNA
   have hBx := x.lt B hBl
   clear hyo hy hRA cc hown hnx hNA hym
   go_wp2_with fail
   obtain ⟨w1, hw1⟩ : ∃ w1, w1 = x.now.alloc (Obj.cells #[.int .i64 n, .int .u8 op, .int .i64 out, .int .i64 dout, .int .i64 arg, .int .i64 darg, .slice ao m cv, .slice no nm nk, .int .i64 dn] 79) := ⟨_, rfl⟩
   obtain ⟨BV, hBV⟩ : ∃ BV, x.now.heap.size = BV := ⟨_, rfl⟩
   rw [← hw1, hBV]
   have bBV : Blk w1 BV [.int .i64 n, .int .u8 op, .int .i64 out, .int .i64 dout, .int .i64 arg, .int .i64 darg, .slice ao m cv, .slice no nm nk, .int .i64 dn] 79 := by rw [hw1, ← hBV]; exact Blk.new _ _ _
   have own1 : w1.ownsRow w.heap.size 125 5 u3 (oPairs l i).length (cells5 (oPairs l i) nx) := by rw [hw1]; exact HOWN.out.alloc _
   have hne : u3.ownBlock ≠ some BV := fun e => by have := (HOWN.out.lt BV e).2; omega
   have hx1 : ∃ y : Ext w, w1 = y.now := by rw [hw1]; exact Ext.both x (Ext.one x.now _)
   have W1 := Lib.hid bBV
   have W2 := Lib.hid own1
   have W3 := Lib.hid hx1
   clear hw1 bBV own1 hx1 c0 c1 c2 c3 c4 c5 c6 c7 c8
   go_loopw [3, 6] (fun v t wr => ∃ k : Nat, k ≤ n ∧ t = .int .i64 k ∧ Wrote5 w (oPairs l i ++ rowPairs (⟨n, op, out, dout, arg, darg, rune⟩, ao, m, cv) k) v wr ∧ Blk wr BV [.int .i64 n, .int .u8 op, .int .i64 out, .int .i64 dout, .int .i64 arg, .int .i64 darg, .slice ao m cv, .slice no nm nk, .int .i64 dn] 79 ∧ v.ownBlock ≠ some BV) (fun _ t _ => n - (intOf t).toNat)
   case atStart => exact ⟨0, Nat.zero_le _, rfl, ⟨nx, by simpa [rowPairs] using HNX.out, by simpa [rowPairs] using W2.out, W3.out⟩, W1.out, hne⟩
   case round =>
    obtain ⟨k, hk, rfl, ⟨nx2, hnx2, hwo, y, rfl⟩, hbv, hnb⟩ := hrel
    have d0 : y.now.cell? ⟨BV, 0, none⟩ = some (.int .i64 n) := (hbv.cell 0).trans rfl
    have d1 : y.now.cell? ⟨BV, 1, none⟩ = some (.int .u8 op) := (hbv.cell 1).trans rfl
    have d2 : y.now.cell? ⟨BV, 2, none⟩ = some (.int .i64 out) := (hbv.cell 2).trans rfl
    have d3 : y.now.cell? ⟨BV, 3, none⟩ = some (.int .i64 dout) := (hbv.cell 3).trans rfl
    have d4 : y.now.cell? ⟨BV, 4, none⟩ = some (.int .i64 arg) := (hbv.cell 4).trans rfl
    have d5 : y.now.cell? ⟨BV, 5, none⟩ = some (.int .i64 darg) := (hbv.cell 5).trans rfl
    have d6 : y.now.cell? ⟨BV, 6, none⟩ = some (.slice ao m cv) := (hbv.cell 6).trans rfl
    have d7 : y.now.cell? ⟨BV, 7, none⟩ = some (.slice no nm nk) := (hbv.cell 7).trans rfl
    have d8 : y.now.cell? ⟨BV, 8, none⟩ = some (.int .i64 dn) := (hbv.cell 8).trans rfl
    have hBVl := hbv.lt
    have V0 := Lib.hid hnx2
    have V1 := Lib.hid hwo
    have V2 := Lib.hid hbv
    have V3 := Lib.hid hnb
    clear hwo hbv hnb hnx2
    by_cases hkn : k < n
    ·have hkn' : (k : Int) < (n : Int) := by omega
     have hkd : 0 ≤ (k : Int) * dn ∧ (k : Int) * dn ≤ 1000 := by
      have : dn = 0 ∨ dn = 1 := by omega
      rcases this with h | h <;> rw [h] <;> omega
     obtain ⟨kd0, kd1⟩ := hkd
     have hinst := oinst_any ⟨n, op, out, dout, arg, darg, rune⟩ HY.out ao no m cv nm nk dn k hkn y.now
     dsimp only at hinst
     have HI := Lib.hid hinst
     clear hinst
     go_wp2_with (first | (go_at_call 68; (with_reducible refine HI.out.mono ?_); rintro e w2 ⟨rfl, z, rfl⟩; have e7 := (z.cell BV 7 hBVl).trans d7; have e8 := (z.cell BV 8 hBVl).trans d8; have hBVz := z.lt BV hBVl))
     obtain ⟨BI, hBI⟩ : ∃ BI, z.now.heap.size = BI := ⟨_, rfl⟩
     rw [hBI]
     obtain ⟨w3, hw3⟩ : ∃ w3, w3 = z.now.alloc (Obj.cells #[.int .u8 (Run.inst ⟨n, op, out, dout, arg, darg, rune⟩ k).op, .int .u32 (Run.inst ⟨n, op, out, dout, arg, darg, rune⟩ k).out, .int .u32 (Run.inst ⟨n, op, out, dout, arg, darg, rune⟩ k).arg, .slice ao m cv, .slice none 0 0] 125) := ⟨_, rfl⟩
     rw [← hw3]
     have bBI : Blk w3 BI [.int .u8 (Run.inst ⟨n, op, out, dout, arg, darg, rune⟩ k).op, .int .u32 (Run.inst ⟨n, op, out, dout, arg, darg, rune⟩ k).out, .int .u32 (Run.inst ⟨n, op, out, dout, arg, darg, rune⟩ k).arg, .slice ao m cv, .slice none 0 0] 125 := by rw [hw3, ← hBI]; exact Blk.new _ _ _
     have hsz3 : w3.heap.size = BI + 1 := by rw [hw3]; simp; omega
     have c23 : Chg [] y.now w3 := by rw [hw3]; exact ((Chg.of_below z.below).trans (Chg.alloc _ _)).mono (fun _ h _ => by cases h)
     have hBVI : BV < BI := by omega
     have X1 := Lib.hid bBI
     have X2 := Lib.hid c23
     clear hw3 bBI c23
     go_loopw [29] (fun t wr => ∃ (j : Nat) (nv : Value) (xs : List Value), j ≤ nm ∧ t = .int .i64 j ∧ Blk wr BI [.int .u8 (Run.inst ⟨n, op, out, dout, arg, darg, rune⟩ k).op, .int .u32 (Run.inst ⟨n, op, out, dout, arg, darg, rune⟩ k).out, .int .u32 (Run.inst ⟨n, op, out, dout, arg, darg, rune⟩ k).arg, .slice ao m cv, nv] 125 ∧ wr.ownsRow (BI + 1) 86 1 nv j xs ∧ Chg [BI] w3 wr) (fun t _ => nm - (intOf t).toNat)
     case atStart => exact ⟨0, .slice none 0 0, [], Nat.zero_le _, rfl, X1.out, World.ownsRow_nil _ _ _ _, (Chg.refl w3).mono (fun _ h => by cases h)⟩
     case round =>
      obtain ⟨j, nv, xs, hj, rfl, hbi, hno, hch⟩ := hrel
      have g4 : wr.cell? ⟨BI, 4, none⟩ = some nv := (hbi.cell 4).trans rfl
      have fr4 := hbi.free 4
      have hBIl := hbi.lt
      have hwsz : BI + 1 ≤ wr.heap.size := by have := hch.size; omega
      have hBVr : BV < wr.heap.size := by omega
      have bvr : Blk wr BV [.int .i64 n, .int .u8 op, .int .i64 out, .int .i64 dout, .int .i64 arg, .int .i64 darg, .slice ao m cv, .slice no nm nk, .int .i64 dn] 79 := (V2.out.chg X2.out (by simp)).chg hch (by simp; omega)
      have g8 : wr.cell? ⟨BV, 8, none⟩ = some (.int .i64 dn) := (bvr.cell 8).trans rfl
      have Z1 := Lib.hid hbi
      have Z2 := Lib.hid hno
      have Z3 := Lib.hid hch
      have Z4 := Lib.hid bvr
      clear hbi hno hch bvr
      by_cases hjn : j < nm
      ·have hjn' : (j : Int) < (nm : Int) := by omega
       rcases HNA.out with hq | ⟨b, n2, hq, hn10, hbl, hcells⟩
       ·simp only [Prod.mk.injEq] at hq; omega
       ·simp only [Prod.mk.injEq] at hq
        obtain ⟨rfl, rfl, rfl⟩ := hq
        obtain ⟨u, hu, hcu⟩ := hcells j hjn
        have hbw : b < y.now.heap.size := y.lt b hbl
        have hcu2 : wr.cell? ⟨b, j, none⟩ = some (.int .u32 u) := by
         have h1 : y.now.cell? ⟨b, j, none⟩ = some (.int .u32 u) := (y.cell b j hbl).trans hcu
         have h2 := (World.cell?_of_block (a := ⟨b, j, none⟩) (X2.out.block b hbw (by simp))).trans h1
         have h3 := z.le
         exact (World.cell?_of_block (a := ⟨b, j, none⟩) (Z3.out.block b (by omega) (by simp; omega))).trans h2
        have hbr : b < wr.heap.size := by have := z.le; omega
        clear hcells
        go_wp2_with (at_builtin; refine u32_one_append _ rfl _ _ rfl (BI + 1) j nv xs rfl (Z2.out.alloc _) ⟨wr.heap.size, 0, none⟩ 1 (.int .u32 ((u : Int) + (k : Int) * dn)) rfl (by simp) rfl (by omega) (by simp; omega) ?_)
        intro g cap w5 hown5 hgr5
        have hca : Chg [] wr (wr.alloc (Obj.cells #[Value.int .u32 ((u : Int) + (k : Int) * dn)] 86)) := Chg.alloc _ _
        have hnvb : ∀ q, nv.ownBlock = some q → BI + 1 ≤ q := fun q hq => (Z2.out.lt q hq).1
        have hc5 : Chg [BI] w3 w5 := by
         have h0 := (Z3.out.trans hca)
         refine ⟨hgr5.os.trans h0.os, hgr5.tape.trans h0.tape, hgr5.output.trans h0.output, Nat.le_trans h0.size hgr5.size, fun q hq hn => ?_⟩
         rw [hgr5.block q (Nat.lt_of_lt_of_le hq h0.size) (fun e => by have := hnvb q e.symm; omega)]
         exact h0.block q hq (by simpa using hn)
        have bI5 : Blk w5 BI [.int .u8 (Run.inst ⟨n, op, out, dout, arg, darg, rune⟩ k).op, .int .u32 (Run.inst ⟨n, op, out, dout, arg, darg, rune⟩ k).out, .int .u32 (Run.inst ⟨n, op, out, dout, arg, darg, rune⟩ k).arg, .slice ao m cv, nv] 125 := by
         refine Eq.trans (hgr5.block BI (by simp; omega) (fun e => by have := hnvb BI e.symm; omega)) ?_
         exact Z1.out.alloc _
        have fr5 := bI5.free 4
        have bIl5 := bI5.lt
        have g45 : w5.cell? ⟨BI, 4, none⟩ = some nv := (bI5.cell 4).trans rfl
        have Y1 := Lib.hid hown5
        have Y2 := Lib.hid hc5
        have Y3 := Lib.hid bI5
        clear hown5 hgr5 hc5 bI5 hca
        go_wp2_with fail
        refine ⟨⟨j + 1, _, _, by omega, by simp, Y3.out.set 4 _, own_chg_any Y1.out (Chg.set w5 BI 4 _) (fun q hq => ?_), (Y2.out.trans (Chg.set w5 BI 4 _)).mono (fun q h _ => by simpa using h)⟩, by simp [intOf]; omega⟩
        have := (Y1.out.lt q hq).1
        simp
        omega
      ·have hjm : j = nm := by omega
       subst hjm
       have hjn' : ¬ (j : Int) < (j : Int) := by omega
       have hnv1 : nv.oneCell' = true := by
        rcases Z2.out.2 with ⟨rfl, _⟩ | ⟨g, cap, cur, rfl, _⟩ <;> rfl
       have g0 : wr.cell? ⟨BI, 0, none⟩ = some (.int .u8 (Run.inst ⟨n, op, out, dout, arg, darg, rune⟩ k).op) := (Z1.out.cell 0).trans rfl
       have g1 : wr.cell? ⟨BI, 1, none⟩ = some (.int .u32 (Run.inst ⟨n, op, out, dout, arg, darg, rune⟩ k).out) := (Z1.out.cell 1).trans rfl
       have g2 : wr.cell? ⟨BI, 2, none⟩ = some (.int .u32 (Run.inst ⟨n, op, out, dout, arg, darg, rune⟩ k).arg) := (Z1.out.cell 2).trans rfl
       have g3 : wr.cell? ⟨BI, 3, none⟩ = some (.slice ao m cv) := (Z1.out.cell 3).trans rfl
       have hvb : ∀ q, u3.ownBlock = some q → q < y.now.heap.size := fun q hq => (V1.out.lt q hq).2
       have hzl := z.le
       have hownr : wr.ownsRow w.heap.size 125 5 u3 (oPairs l i ++ rowPairs (⟨n, op, out, dout, arg, darg, rune⟩, ao, m, cv) k).length (cells5 (oPairs l i ++ rowPairs (⟨n, op, out, dout, arg, darg, rune⟩, ao, m, cv) k) nx2) :=
        own_chg_any (own_chg_any V1.out X2.out (fun q _ => by simp)) Z3.out (fun q hq => by have := hvb q hq; simp; omega)
       have hlenp : (oPairs l i ++ rowPairs (⟨n, op, out, dout, arg, darg, rune⟩, ao, m, cv) k).length = (oPairs l i).length + k := by simp [rowPairs]
       have hxr : ∃ yy : Ext w, wr = yy.now := by
        have h1 : Chg [] w y.now := Chg.of_below y.below
        have h2 : Chg [] w wr := ((h1.trans X2.out).trans Z3.out).mono (fun q hq hlt => by
         simp at hq
         have := y.le
         omega)
        exact Ext.of (h2.below (Nat.le_refl _) (fun q hq => by cases hq))
       have hwr : w.heap.size ≤ wr.heap.size := by have := y.le; omega
       have U1 := Lib.hid hownr
       have U2 := Lib.hid hxr
       have U3 := Lib.hid hvb
       clear hownr hxr hvb g8 fr4
       go_wp2_with (at_builtin; refine op_append _ rfl _ _ rfl w.heap.size (oPairs l i ++ rowPairs (⟨n, op, out, dout, arg, darg, rune⟩, ao, m, cv) k).length u3 (cells5 (oPairs l i ++ rowPairs (⟨n, op, out, dout, arg, darg, rune⟩, ao, m, cv) k) nx2) rfl (U1.out.alloc _) ⟨wr.heap.size, 0, none⟩ 1 [.int .u8 (Run.inst ⟨n, op, out, dout, arg, darg, rune⟩ k).op, .int .u32 (Run.inst ⟨n, op, out, dout, arg, darg, rune⟩ k).out, .int .u32 (Run.inst ⟨n, op, out, dout, arg, darg, rune⟩ k).arg, .slice ao m cv, nv] rfl rfl (by intro j2 u hu; match j2, hu with | 0, hu => simpa [Addr.add] using hu | 1, hu => simpa [Addr.add] using hu | 2, hu => simpa [Addr.add] using hu | 3, hu => simpa [Addr.add] using hu | 4, hu => simpa [Addr.add] using hu | j2 + 5, hu => simp at hu) (by intro u hu; simp at hu; rcases hu with rfl | rfl | rfl | rfl | rfl; rfl; rfl; rfl; rfl; exact hnv1) (by omega) (by simp; omega) ?_)
       intro g cap w6 hown6 hgr6 hat6
       have Y1 := Lib.hid hown6
       have Y2 := Lib.hid hgr6
       have Y3 := Lib.hid hat6
       clear hown6 hgr6 hat6
       go_wp2_with fail
       refine ⟨⟨k + 1, by omega, by simp, ⟨nx2 ++ [nv], ?_, ?_, ?_⟩, ?_, ?_⟩, by simp [intOf]; omega⟩
       ·have h0 := V0.out
        rw [rowPairs_succ, ← List.append_assoc]
        simp only [List.length_append] at h0 ⊢
        rw [h0]
        rfl
       ·rw [rowPairs_succ, ← List.append_assoc, cells5_snoc _ _ V0.out]
        have e : ∀ q : (Run × Sl) × Nat, (oPairs l i ++ rowPairs (⟨n, op, out, dout, arg, darg, rune⟩, ao, m, cv) k ++ [q]).length = (oPairs l i).length + k + 1 := fun q => by rw [List.length_append, hlenp]; rfl
        rw [e]
        exact Y1.out
       ·obtain ⟨yy, hyy⟩ := U2.out
        obtain ⟨yz, hyz⟩ := Ext.both yy (Ext.one yy.now (Obj.cells #[.int .u8 (Run.inst ⟨n, op, out, dout, arg, darg, rune⟩ k).op, .int .u32 (Run.inst ⟨n, op, out, dout, arg, darg, rune⟩ k).out, .int .u32 (Run.inst ⟨n, op, out, dout, arg, darg, rune⟩ k).arg, .slice ao m cv, nv] 125))
        have hyz2 : wr.alloc (Obj.cells #[.int .u8 (Run.inst ⟨n, op, out, dout, arg, darg, rune⟩ k).op, .int .u32 (Run.inst ⟨n, op, out, dout, arg, darg, rune⟩ k).out, .int .u32 (Run.inst ⟨n, op, out, dout, arg, darg, rune⟩ k).arg, .slice ao m cv, nv] 125) = yz.now := by rw [hyy]; exact hyz
        exact Ext.grown yz hyz2 (U1.out.alloc _) Y2.out
       ·refine Eq.trans (Y2.out.block BV (by simp; omega) (fun e => V3.out e.symm)) ?_
        exact Z4.out.alloc _
       ·intro e
        simp [Value.ownBlock] at e
        rcases Y3.out with h | h
        ·exact V3.out (by rw [h, e])
        ·omega
    ·have hke : k = n := by omega
     subst hke
     have hkn' : ¬ (k : Int) < (k : Int) := by omega
     go_wp2_with fail
     refine ⟨⟨i + 1, by omega, by simp, nx2, ?_, ?_, y, rfl⟩, by simp [intOf]; omega⟩
     ·rw [oPairs_succ HYI.out]
      exact V0.out
     ·rw [oPairs_succ HYI.out]
      exact V1.out
  ·have hil : i = l.length := by omega
   subst hil
   have hlt' : ¬ (l.length : Int) < (l.length : Int) := by omega
   have HOWN := Lib.hid hown
   have HNX := Lib.hid hnx
   clear hown hnx
   go_wp2_with fail
   go_ret
   exact ⟨_, rfl, nx, HNX.out, HOWN.out, x, rfl⟩

end Go.Proofs.YtkbmigfkclnlaaaGreatDoor
