/-
FnRefPrintParses: the regular expressions, the digest and the reference, part 20 of 25.
-/
import Derived.Test.YtooggfopjaaejaaGreatDoorProg
import Derived.Test.YtooggfopjaaejaaGreatDoorV02
import Derived.IntWalk
import Derived.Outline
import Derived.OwnWalk
import Derived.BigQuiet
import Derived.WalkSpells
import Derived.Laws.IdiomStrings
import Derived.Lib.Hide
import Derived.Test.YtooggfopjaaejaaGreatDoorV19
set_option linter.all false
namespace Go.Proofs.YtooggfopjaaejaaGreatDoor
open Go.RowKit
attribute [local go_sem] Ext.cell Ext.frozen Ext.lt Ext.lt_add Ext.cell2 Ext.frozen2

/-- The name of a domain and a path. -/
def nm (d p : ByteArray) : ByteArray := if d.toList.isEmpty = true then p else d ++ ⟨#[47]⟩ ++ p

/-- (repository).Name -/
theorem name_any (d p : ByteArray) (w : World) (hs : d.size + p.size ≤ 10000000000) :
    Calls Tryz.prog 129 #[.agg #[.string d, .string p]] w fun e w' => e = .returned (.string (nm d p)) ∧ ∃ x : Ext w, w' = x.now := by
  unfold nm
  by_cases hd : d.toList.isEmpty = true
  · rw [if_pos hd]
    go_enter Tryz.func129, Tryz.ntmps129
    go_wp2
    go_ret
    exact ⟨rfl, Ext.alloc1 _ _⟩
  · rw [if_neg hd]
    have hd' : d.toList.isEmpty = false := by simpa using hd
    clear hd
    go_enter Tryz.func129, Tryz.ntmps129
    go_wp2
    go_ret
    exact ⟨rfl, Ext.alloc1 _ _⟩

/-- spec.RefName -/
theorem specName_any (d p t g : ByteArray) (w : World) (hs : d.size + p.size ≤ 10000000000) :
    Calls Tryz.prog 17 #[.agg #[.string d, .string p, .string t, .string g]] w fun e w' => e = .returned (.string (nm d p)) ∧ ∃ x : Ext w, w' = x.now := by
  unfold nm
  by_cases hd : d.toList.isEmpty = true
  · rw [if_pos hd]
    go_enter Tryz.func17, Tryz.ntmps17
    go_wp2
    go_ret
    exact ⟨rfl, Ext.alloc1 _ _⟩
  · rw [if_neg hd]
    have hd' : d.toList.isEmpty = false := by simpa using hd
    clear hd
    go_enter Tryz.func17, Tryz.ntmps17
    go_wp2
    go_ret
    exact ⟨rfl, Ext.alloc1 _ _⟩

/-- (repository).String -/
theorem repoString_any (d p : ByteArray) (w : World) (hs : d.size + p.size ≤ 10000000000) :
    Calls Tryz.prog 131 #[.agg #[.string d, .string p]] w fun e w' => e = .returned (.string (nm d p)) ∧ ∃ x : Ext w, w' = x.now := by
  have hn := fun W => name_any d p W hs
  go_enter Tryz.func131, Tryz.ntmps131
  go_wp2_with (go_at_call 129; (with_reducible refine (hn _).mono ?_); rintro e w' ⟨rfl, x, rfl⟩)
  go_ret
  exact ⟨rfl, Ext.via x⟩

/-- (Digest).String -/
theorem digString_any (g : ByteArray) (w : World) :
    Calls Tryz.prog 133 #[.string g] w fun e w' => e = .returned (.string g) ∧ ∃ x : Ext w, w' = x.now := by
  go_enter Tryz.func133, Tryz.ntmps133
  go_wp2
  go_ret
  exact ⟨rfl, Ext.refl w, rfl⟩

theorem meth_name (d p : ByteArray) (w : World) : (method 377 50 (.agg #[.string d, .string p]) "Name").run Tryz.prog w = .ok (129, .agg #[.string d, .string p]) w := by kernel_rfl

theorem nm_size (d p : ByteArray) : (nm d p).size ≤ d.size + 1 + p.size := by
  unfold nm
  split
  · omega
  · have : (⟨#[47]⟩ : ByteArray).size = 1 := rfl
    simp [ByteArray.size_append, this]

/-- (taggedReference).String -/
theorem trString_any (d p t : ByteArray) (w : World) (hs : d.size + p.size + t.size ≤ 10000000000) :
    Calls Tryz.prog 141 #[.agg #[.iface 50 (.agg #[.string d, .string p]), .string t]] w fun e w' => e = .returned (.string (nm d p ++ ⟨#[58]⟩ ++ t)) ∧ ∃ x : Ext w, w' = x.now := by
  have hn := fun W => name_any d p W (by omega)
  have hm := meth_name d p
  have hz := nm_size d p
  have b1 : ¬ 9223372036854775807 < (nm d p).size + 1 := by omega
  have b2 : ¬ 9223372036854775807 < (nm d p).size + 1 + t.size := by omega
  go_enter Tryz.func141, Tryz.ntmps141
  go_wp2
  refine wp_region_ext (by kernel_rfl) (by kernel_rfl) ?_
  repeat (quiet_step (first
    | (go_at_call 129; with_reducible exact calls_ext (hn _))))
  refine wpQuiet_nil ?_
  rintro w' ⟨y, rfl⟩
  go_wp2
  go_ret
  exact ⟨rfl, Ext.via y⟩

/-- (canonicalReference).String -/
theorem crString_any (d p g : ByteArray) (w : World) (hs : d.size + p.size + g.size ≤ 10000000000) :
    Calls Tryz.prog 140 #[.agg #[.iface 50 (.agg #[.string d, .string p]), .string g]] w fun e w' => e = .returned (.string (nm d p ++ ⟨#[64]⟩ ++ g)) ∧ ∃ x : Ext w, w' = x.now := by
  have hn := fun W => name_any d p W (by omega)
  have hm := meth_name d p
  have hz := nm_size d p
  have b1 : ¬ 9223372036854775807 < (nm d p).size + 1 := by omega
  have b2 : ¬ 9223372036854775807 < (nm d p).size + 1 + g.size := by omega
  have hg := fun W => digString_any g W
  go_enter Tryz.func140, Tryz.ntmps140
  go_wp2
  refine wp_region_ext (by kernel_rfl) (by kernel_rfl) ?_
  repeat (quiet_step (first
    | (go_at_call 129; with_reducible exact calls_ext (hn _))
    | (go_at_call 133; with_reducible exact calls_ext (hg _))))
  refine wpQuiet_nil ?_
  rintro w' ⟨y, rfl⟩
  go_wp2
  go_ret
  exact ⟨rfl, Ext.via y⟩

/-- (reference).String -/
theorem rfString_any (d p t g : ByteArray) (w : World) (hs : d.size + p.size + t.size + g.size ≤ 10000000000) :
    Calls Tryz.prog 135 #[.agg #[.iface 50 (.agg #[.string d, .string p]), .string t, .string g]] w fun e w' => e = .returned (.string (nm d p ++ ⟨#[58]⟩ ++ t ++ ⟨#[64]⟩ ++ g)) ∧ ∃ x : Ext w, w' = x.now := by
  have hn := fun W => name_any d p W (by omega)
  have hm := meth_name d p
  have hz := nm_size d p
  have b1 : ¬ 9223372036854775807 < (nm d p).size + 1 := by omega
  have b2 : ¬ 9223372036854775807 < (nm d p).size + 1 + t.size := by omega
  have b3 : ¬ 9223372036854775807 < (nm d p).size + 1 + t.size + 1 := by omega
  have b4 : ¬ 9223372036854775807 < (nm d p).size + 1 + t.size + 1 + g.size := by omega
  have hg := fun W => digString_any g W
  go_enter Tryz.func135, Tryz.ntmps135
  go_wp2
  refine wp_region_ext (by kernel_rfl) (by kernel_rfl) ?_
  repeat (quiet_step (first
    | (go_at_call 129; with_reducible exact calls_ext (hn _))
    | (go_at_call 133; with_reducible exact calls_ext (hg _))))
  refine wpQuiet_nil ?_
  rintro w' ⟨y, rfl⟩
  go_wp2
  go_ret
  exact ⟨rfl, Ext.via y⟩

/-- The reference of four parts as an interface value. -/
def refV (d p t g : ByteArray) : Value :=
  if p.toList.isEmpty = true then .iface 94 (.string g)
  else if t.toList.isEmpty = true then
    if g.toList.isEmpty = true then .iface 50 (.agg #[.string d, .string p]) else .iface 96 (.agg #[.iface 50 (.agg #[.string d, .string p]), .string g])
  else if g.toList.isEmpty = true then .iface 98 (.agg #[.iface 50 (.agg #[.string d, .string p]), .string t])
  else .iface 55 (.agg #[.iface 50 (.agg #[.string d, .string p]), .string t, .string g])

theorem nm_empty (d p : ByteArray) : (nm d p).toList.isEmpty = (d.toList.isEmpty && p.toList.isEmpty) := by
  unfold nm
  cases hd : d.toList.isEmpty with
  | true => simp
  | false =>
    rw [ByteArray.toList_eq] at hd
    simp only [Bool.false_eq_true, if_false, Bool.false_and, ByteArray.toList_eq, ByteArray.data_append, Array.toList_append]
    cases h : d.data.toList with
    | nil => rw [h] at hd; cases hd
    | cons a l => rfl

theorem best_any (d p t g : ByteArray) (w : World) (hs : d.size + p.size ≤ 10000000000) (hp : p.toList.isEmpty = true → d.toList.isEmpty = true) (hg : p.toList.isEmpty = true → g.toList.isEmpty = false) :
    Calls Tryz.prog 25 #[.agg #[.iface 50 (.agg #[.string d, .string p]), .string t, .string g]] w fun e w' => e = .returned (refV d p t g) ∧ ∃ x : Ext w, w' = x.now := by
  have hn := fun W => name_any d p W (by omega)
  have hm := meth_name d p
  unfold refV
  by_cases h1 : p.toList.isEmpty = true
  · have hN : (nm d p).toList.isEmpty = true := by rw [nm_empty, hp h1, h1]; rfl
    have hG := hg h1
    rw [if_pos h1]
    clear hp hg h1
    go_enter Tryz.func25, Tryz.ntmps25
    go_wp2_with (go_at_call 129; (with_reducible refine (hn _).mono ?_); rintro e w' ⟨rfl, x, rfl⟩)
    go_ret
    exact ⟨rfl, Ext.via x⟩
  · have h1' : p.toList.isEmpty = false := by simpa using h1
    have hN : (nm d p).toList.isEmpty = false := by rw [nm_empty, h1', Bool.and_false]
    rw [if_neg h1]
    clear hp hg h1 h1'
    by_cases h2 : t.toList.isEmpty = true
    · rw [if_pos h2]
      by_cases h3 : g.toList.isEmpty = true
      · rw [if_pos h3]
        go_enter Tryz.func25, Tryz.ntmps25
        go_wp2_with (go_at_call 129; (with_reducible refine (hn _).mono ?_); rintro e w' ⟨rfl, x, rfl⟩)
        go_ret
        exact ⟨rfl, Ext.via x⟩
      · rw [if_neg h3]
        have h3' : g.toList.isEmpty = false := by simpa using h3
        clear h3
        go_enter Tryz.func25, Tryz.ntmps25
        go_wp2_with (go_at_call 129; (with_reducible refine (hn _).mono ?_); rintro e w' ⟨rfl, x, rfl⟩)
        go_ret
        exact ⟨rfl, Ext.via x⟩
    · rw [if_neg h2]
      have h2' : t.toList.isEmpty = false := by simpa using h2
      clear h2
      by_cases h3 : g.toList.isEmpty = true
      · rw [if_pos h3]
        go_enter Tryz.func25, Tryz.ntmps25
        go_wp2_with (go_at_call 129; (with_reducible refine (hn _).mono ?_); rintro e w' ⟨rfl, x, rfl⟩)
        go_ret
        exact ⟨rfl, Ext.via x⟩
      · rw [if_neg h3]
        have h3' : g.toList.isEmpty = false := by simpa using h3
        clear h3
        go_enter Tryz.func25, Tryz.ntmps25
        go_wp2_with (go_at_call 129; (with_reducible refine (hn _).mono ?_); rintro e w' ⟨rfl, x, rfl⟩)
        go_ret
        exact ⟨rfl, Ext.via x⟩


theorem ref_any (d p t g : ByteArray) (w : World) (hs : d.size + p.size ≤ 10000000000) (hp : p.toList.isEmpty = true → d.toList.isEmpty = true) (hg : p.toList.isEmpty = true → g.toList.isEmpty = false) :
    Calls Tryz.prog 12 #[.agg #[.string d, .string p, .string t, .string g]] w fun e w' => e = .returned (refV d p t g) ∧ ∃ x : Ext w, w' = x.now := by
  have hb := fun W => best_any d p t g W hs hp hg
  clear hp hg
  have hz : ∀ W, Calls Tryz.prog 26 #[.string d, .string p, .string t, .string g] W fun e w' => e = .returned (refV d p t g) ∧ ∃ x : Ext W, w' = x.now := by
    intro W
    go_enter Tryz.func26, Tryz.ntmps26
    go_wp2_with (go_at_call 25; (with_reducible refine (hb _).mono ?_); rintro e w' ⟨rfl, x, rfl⟩)
    go_ret
    exact ⟨rfl, x, rfl⟩
  clear hb
  go_enter Tryz.func12, Tryz.ntmps12
  go_wp2_with (go_at_call 26; (with_reducible refine (hz _).mono ?_); rintro e w' ⟨rfl, x, rfl⟩)
  go_ret
  exact ⟨rfl, Ext.via x⟩

abbrev rv (d p t g : ByteArray) : Value := .agg #[.string d, .string p, .string t, .string g]

def fitsB (d p t g : ByteArray) : Bool := decide (d.size ≤ 2147483647) && decide (p.size ≤ 2147483647) && decide (t.size ≤ 2147483647) && decide (g.size ≤ 2147483647)

theorem fits_any (d p t g : ByteArray) (w : World) :
    Calls Tryz.prog 4 #[rv d p t g] w fun e w' => e = .returned (.bool (fitsB d p t g)) ∧ ∃ x : Ext w, w' = x.now := by
  by_cases a1 : d.size ≤ 2147483647
  · by_cases a2 : p.size ≤ 2147483647
    · by_cases a3 : t.size ≤ 2147483647
      · by_cases a4 : g.size ≤ 2147483647
        · have hg : fitsB d p t g = true := by simp [fitsB, a1, a2, a3, a4]
          rw [hg]
          go_enter Tryz.func4, Tryz.ntmps4
          go_wp2
          go_ret
          exact ⟨rfl, Ext.alloc1 _ _⟩
        · have hg : fitsB d p t g = false := by simp [fitsB, a1, a2, a3, a4]
          rw [hg]
          go_enter Tryz.func4, Tryz.ntmps4
          go_wp2
          go_ret
          exact ⟨rfl, Ext.alloc1 _ _⟩
      · have hg : fitsB d p t g = false := by simp [fitsB, a1, a2, a3]
        rw [hg]
        go_enter Tryz.func4, Tryz.ntmps4
        go_wp2
        go_ret
        exact ⟨rfl, Ext.alloc1 _ _⟩
    · have hg : fitsB d p t g = false := by simp [fitsB, a1, a2]
      rw [hg]
      go_enter Tryz.func4, Tryz.ntmps4
      go_wp2
      go_ret
      exact ⟨rfl, Ext.alloc1 _ _⟩
  · have hg : fitsB d p t g = false := by simp [fitsB, a1]
    rw [hg]
    go_enter Tryz.func4, Tryz.ntmps4
    go_wp2
    go_ret
    exact ⟨rfl, Ext.alloc1 _ _⟩

/-- The text of four parts, as the specification writes it. -/
def specText (d p t g : ByteArray) : ByteArray :=
  if p.toList.isEmpty = true then g
  else if t.toList.isEmpty = true then (if g.toList.isEmpty = true then nm d p else nm d p ++ (⟨#[64]⟩ ++ g))
  else (if g.toList.isEmpty = true then nm d p ++ (⟨#[58]⟩ ++ t) else nm d p ++ (⟨#[58]⟩ ++ t) ++ (⟨#[64]⟩ ++ g))

theorem specText_any (d p t g : ByteArray) (w : World) (hs : d.size + p.size + t.size + g.size ≤ 10000000000) :
    Calls Tryz.prog 9 #[rv d p t g] w fun e w' => e = .returned (.string (specText d p t g)) ∧ ∃ x : Ext w, w' = x.now := by
  have hn := fun W => specName_any d p t g W (by omega)
  have hz := nm_size d p
  unfold specText
  by_cases h1 : p.toList.isEmpty = true
  · rw [if_pos h1]
    go_enter Tryz.func9, Tryz.ntmps9
    go_wp2_with (go_at_call 17; (with_reducible refine (hn _).mono ?_); rintro e w' ⟨rfl, x, rfl⟩)
    go_ret
    exact ⟨rfl, Ext.alloc1 _ _⟩
  · rw [if_neg h1]
    have h1' : p.toList.isEmpty = false := by simpa using h1
    clear h1
    by_cases h2 : t.toList.isEmpty = true
    · rw [if_pos h2]
      by_cases h3 : g.toList.isEmpty = true
      · rw [if_pos h3]
        go_enter Tryz.func9, Tryz.ntmps9
        go_wp2_with (go_at_call 17; (with_reducible refine (hn _).mono ?_); rintro e w' ⟨rfl, x, rfl⟩)
        go_ret
        exact ⟨rfl, Ext.via x⟩
      · rw [if_neg h3]
        have h3' : g.toList.isEmpty = false := by simpa using h3
        clear h3
        go_enter Tryz.func9, Tryz.ntmps9
        go_wp2_with (go_at_call 17; (with_reducible refine (hn _).mono ?_); rintro e w' ⟨rfl, x, rfl⟩)
        go_ret
        exact ⟨rfl, Ext.via x⟩
    · rw [if_neg h2]
      have h2' : t.toList.isEmpty = false := by simpa using h2
      clear h2
      by_cases h3 : g.toList.isEmpty = true
      · rw [if_pos h3]
        go_enter Tryz.func9, Tryz.ntmps9
        go_wp2_with (go_at_call 17; (with_reducible refine (hn _).mono ?_); rintro e w' ⟨rfl, x, rfl⟩)
        go_ret
        exact ⟨rfl, Ext.via x⟩
      · rw [if_neg h3]
        have h3' : g.toList.isEmpty = false := by simpa using h3
        clear h3
        go_enter Tryz.func9, Tryz.ntmps9
        go_wp2_with (go_at_call 17; (with_reducible refine (hn _).mono ?_); rintro e w' ⟨rfl, x, rfl⟩)
        go_ret
        exact ⟨rfl, Ext.via x⟩


end Go.Proofs.YtooggfopjaaejaaGreatDoor
namespace Go.Rx
def shx (x : Nat) : Bool := dig x || decide (97 ≤ x ∧ x ≤ 102)
def dfx (x : Nat) : Bool := wrd x || is 61 x || is 45 x
def nlow (x : Nat) : Bool := !low x
end Go.Rx
namespace Go.Proofs.YtooggfopjaaejaaGreatDoor
open Go.RowKit Go.Rx
attribute [local go_sem] Ext.cell Ext.frozen Ext.lt Ext.lt_add Ext.cell2 Ext.frozen2

/-- A function that tells a kind of bytes. -/
abbrev Kind (F : FuncId) (p : Nat → Bool) : Prop := ∀ (x : Nat) (w : World), Calls Tryz.prog F #[.int .u8 x] w fun e w' => e = .returned (.bool (p x)) ∧ ∃ y : Ext w, w' = y.now

theorem kind_digit : Kind 47 dig := by
  intro x w
  by_cases h1 : 48 ≤ x
  · have h1' : (48 : Int) ≤ (x : Int) := by omega
    by_cases h2 : x ≤ 57
    · have h2' : (x : Int) ≤ 57 := by omega
      have e : dig x = true := by simp [dig, h1, h2]
      rw [e]
      go_enter Tryz.func47, Tryz.ntmps47
      go_wp2
      go_ret
      exact ⟨rfl, Ext.here _⟩
    · have h2' : ¬ (x : Int) ≤ 57 := by omega
      have e : dig x = false := by simp [dig, h2]
      rw [e]
      go_enter Tryz.func47, Tryz.ntmps47
      go_wp2
      go_ret
      exact ⟨rfl, Ext.here _⟩
  · have h1' : ¬ (48 : Int) ≤ (x : Int) := by omega
    have e : dig x = false := by simp [dig, h1]
    rw [e]
    go_enter Tryz.func47, Tryz.ntmps47
    go_wp2
    go_ret
    exact ⟨rfl, Ext.here _⟩

theorem kind_lower : Kind 52 low := by
  intro x w
  by_cases a0 : 97 ≤ x
  · have a0' : (97 : Int) ≤ (x : Int) := by omega
    have c0 : decide ((97 : Int) ≤ (x : Int)) = true := decide_eq_true a0'
    by_cases b0 : x ≤ 122
    · have b0' : (x : Int) ≤ 122 := by omega
      have d0 : decide ((x : Int) ≤ 122) = true := decide_eq_true b0'
      have e : low x = true := by simp [low, a0, b0]
      rw [e]
      go_enter Tryz.func52, Tryz.ntmps52
      go_wp2
      go_ret
      exact ⟨rfl, Ext.here _⟩
    · have b0' : ¬ (x : Int) ≤ 122 := by omega
      have d0 : decide ((x : Int) ≤ 122) = false := decide_eq_false b0'
      cases a1 : dig x with
      | true =>
        have e : low x = true := by simp [low, b0, a1]
        rw [e]
        go_enter Tryz.func52, Tryz.ntmps52
        go_wp2_with (first | (go_at_call 47; (with_reducible refine (kind_digit x _).mono ?_); rintro e w1 ⟨rfl, y, rfl⟩))
        go_ret
        exact ⟨rfl, y, rfl⟩
      | false =>
        have e : low x = false := by simp [low, b0, a1]
        rw [e]
        go_enter Tryz.func52, Tryz.ntmps52
        go_wp2_with (first | (go_at_call 47; (with_reducible refine (kind_digit x _).mono ?_); rintro e w1 ⟨rfl, y, rfl⟩))
        go_ret
        exact ⟨rfl, y, rfl⟩
  · have a0' : ¬ (97 : Int) ≤ (x : Int) := by omega
    have c0 : decide ((97 : Int) ≤ (x : Int)) = false := decide_eq_false a0'
    cases a1 : dig x with
    | true =>
      have e : low x = true := by simp [low, a0, a1]
      rw [e]
      go_enter Tryz.func52, Tryz.ntmps52
      go_wp2_with (first | (go_at_call 47; (with_reducible refine (kind_digit x _).mono ?_); rintro e w1 ⟨rfl, y, rfl⟩))
      go_ret
      exact ⟨rfl, y, rfl⟩
    | false =>
      have e : low x = false := by simp [low, a0, a1]
      rw [e]
      go_enter Tryz.func52, Tryz.ntmps52
      go_wp2_with (first | (go_at_call 47; (with_reducible refine (kind_digit x _).mono ?_); rintro e w1 ⟨rfl, y, rfl⟩))
      go_ret
      exact ⟨rfl, y, rfl⟩

theorem kind_alnum : Kind 68 aln := by
  intro x w
  cases a0 : low x with
  | true =>
    have e : aln x = true := by simp [aln, a0]
    rw [e]
    go_enter Tryz.func68, Tryz.ntmps68
    go_wp2_with (first | (go_at_call 52; (with_reducible refine (kind_lower x _).mono ?_); rintro e w1 ⟨rfl, y, rfl⟩))
    go_ret
    exact ⟨rfl, y, rfl⟩
  | false =>
    by_cases a1 : 65 ≤ x
    · have a1' : (65 : Int) ≤ (x : Int) := by omega
      have c1 : decide ((65 : Int) ≤ (x : Int)) = true := decide_eq_true a1'
      by_cases b1 : x ≤ 90
      · have b1' : (x : Int) ≤ 90 := by omega
        have d1 : decide ((x : Int) ≤ 90) = true := decide_eq_true b1'
        have e : aln x = true := by simp [aln, a0, a1, b1]
        rw [e]
        go_enter Tryz.func68, Tryz.ntmps68
        go_wp2_with (first | (go_at_call 52; (with_reducible refine (kind_lower x _).mono ?_); rintro e w1 ⟨rfl, y, rfl⟩))
        go_ret
        exact ⟨rfl, y, rfl⟩
      · have b1' : ¬ (x : Int) ≤ 90 := by omega
        have d1 : decide ((x : Int) ≤ 90) = false := decide_eq_false b1'
        have e : aln x = false := by simp [aln, a0, b1]
        rw [e]
        go_enter Tryz.func68, Tryz.ntmps68
        go_wp2_with (first | (go_at_call 52; (with_reducible refine (kind_lower x _).mono ?_); rintro e w1 ⟨rfl, y, rfl⟩))
        go_ret
        exact ⟨rfl, y, rfl⟩
    · have a1' : ¬ (65 : Int) ≤ (x : Int) := by omega
      have c1 : decide ((65 : Int) ≤ (x : Int)) = false := decide_eq_false a1'
      have e : aln x = false := by simp [aln, a0, a1]
      rw [e]
      go_enter Tryz.func68, Tryz.ntmps68
      go_wp2_with (first | (go_at_call 52; (with_reducible refine (kind_lower x _).mono ?_); rintro e w1 ⟨rfl, y, rfl⟩))
      go_ret
      exact ⟨rfl, y, rfl⟩

theorem kind_word : Kind 45 wrd := by
  intro x w
  cases a0 : aln x with
  | true =>
    have e : wrd x = true := by simp [wrd, a0]
    rw [e]
    go_enter Tryz.func45, Tryz.ntmps45
    go_wp2_with (first | (go_at_call 68; (with_reducible refine (kind_alnum x _).mono ?_); rintro e w1 ⟨rfl, y, rfl⟩))
    go_ret
    exact ⟨rfl, y, rfl⟩
  | false =>
    by_cases a1 : x = 95
    · have a1' : (x : Int) = 95 := by omega
      have c1 : ((x : Int) == 95) = true := by simp; omega
      have e : wrd x = true := by simp [wrd, a0, a1]
      rw [e]
      clear e a1 a1'
      go_enter Tryz.func45, Tryz.ntmps45
      go_wp2_with (first | (go_at_call 68; (with_reducible refine (kind_alnum x _).mono ?_); rintro e w1 ⟨rfl, y, rfl⟩))
      go_ret
      exact ⟨rfl, y, rfl⟩
    · have a1' : ¬ (x : Int) = 95 := by omega
      have c1 : ((x : Int) == 95) = false := by simp; omega
      have e : wrd x = false := by simp [wrd, a0, a1]
      rw [e]
      go_enter Tryz.func45, Tryz.ntmps45
      go_wp2_with (first | (go_at_call 68; (with_reducible refine (kind_alnum x _).mono ?_); rintro e w1 ⟨rfl, y, rfl⟩))
      go_ret
      exact ⟨rfl, y, rfl⟩

theorem kind_hex : Kind 43 hex := by
  intro x w
  cases a0 : dig x with
  | true =>
    have e : hex x = true := by simp [hex, a0]
    rw [e]
    go_enter Tryz.func43, Tryz.ntmps43
    go_wp2_with (first | (go_at_call 47; (with_reducible refine (kind_digit x _).mono ?_); rintro e w1 ⟨rfl, y, rfl⟩))
    go_ret
    exact ⟨rfl, y, rfl⟩
  | false =>
    by_cases a1 : 97 ≤ x
    · have a1' : (97 : Int) ≤ (x : Int) := by omega
      have c1 : decide ((97 : Int) ≤ (x : Int)) = true := decide_eq_true a1'
      by_cases b1 : x ≤ 102
      · have b1' : (x : Int) ≤ 102 := by omega
        have d1 : decide ((x : Int) ≤ 102) = true := decide_eq_true b1'
        have e : hex x = true := by simp [hex, a0, a1, b1]
        rw [e]
        go_enter Tryz.func43, Tryz.ntmps43
        go_wp2_with (first | (go_at_call 47; (with_reducible refine (kind_digit x _).mono ?_); rintro e w1 ⟨rfl, y, rfl⟩))
        go_ret
        exact ⟨rfl, y, rfl⟩
      · have b1' : ¬ (x : Int) ≤ 102 := by omega
        have d1 : decide ((x : Int) ≤ 102) = false := decide_eq_false b1'
        by_cases a2 : 65 ≤ x
        · have a2' : (65 : Int) ≤ (x : Int) := by omega
          have c2 : decide ((65 : Int) ≤ (x : Int)) = true := decide_eq_true a2'
          by_cases b2 : x ≤ 70
          · have b2' : (x : Int) ≤ 70 := by omega
            have d2 : decide ((x : Int) ≤ 70) = true := decide_eq_true b2'
            have e : hex x = true := by simp [hex, a0, b1, a2, b2]
            rw [e]
            go_enter Tryz.func43, Tryz.ntmps43
            go_wp2_with (first | (go_at_call 47; (with_reducible refine (kind_digit x _).mono ?_); rintro e w1 ⟨rfl, y, rfl⟩))
            go_ret
            exact ⟨rfl, y, rfl⟩
          · have b2' : ¬ (x : Int) ≤ 70 := by omega
            have d2 : decide ((x : Int) ≤ 70) = false := decide_eq_false b2'
            have e : hex x = false := by simp [hex, a0, b1, b2]
            rw [e]
            go_enter Tryz.func43, Tryz.ntmps43
            go_wp2_with (first | (go_at_call 47; (with_reducible refine (kind_digit x _).mono ?_); rintro e w1 ⟨rfl, y, rfl⟩))
            go_ret
            exact ⟨rfl, y, rfl⟩
        · have a2' : ¬ (65 : Int) ≤ (x : Int) := by omega
          have c2 : decide ((65 : Int) ≤ (x : Int)) = false := decide_eq_false a2'
          have e : hex x = false := by simp [hex, a0, b1, a2]
          rw [e]
          go_enter Tryz.func43, Tryz.ntmps43
          go_wp2_with (first | (go_at_call 47; (with_reducible refine (kind_digit x _).mono ?_); rintro e w1 ⟨rfl, y, rfl⟩))
          go_ret
          exact ⟨rfl, y, rfl⟩
    · have a1' : ¬ (97 : Int) ≤ (x : Int) := by omega
      have c1 : decide ((97 : Int) ≤ (x : Int)) = false := decide_eq_false a1'
      by_cases a2 : 65 ≤ x
      · have a2' : (65 : Int) ≤ (x : Int) := by omega
        have c2 : decide ((65 : Int) ≤ (x : Int)) = true := decide_eq_true a2'
        by_cases b2 : x ≤ 70
        · have b2' : (x : Int) ≤ 70 := by omega
          have d2 : decide ((x : Int) ≤ 70) = true := decide_eq_true b2'
          have e : hex x = true := by simp [hex, a0, a1, a2, b2]
          rw [e]
          go_enter Tryz.func43, Tryz.ntmps43
          go_wp2_with (first | (go_at_call 47; (with_reducible refine (kind_digit x _).mono ?_); rintro e w1 ⟨rfl, y, rfl⟩))
          go_ret
          exact ⟨rfl, y, rfl⟩
        · have b2' : ¬ (x : Int) ≤ 70 := by omega
          have d2 : decide ((x : Int) ≤ 70) = false := decide_eq_false b2'
          have e : hex x = false := by simp [hex, a0, a1, b2]
          rw [e]
          go_enter Tryz.func43, Tryz.ntmps43
          go_wp2_with (first | (go_at_call 47; (with_reducible refine (kind_digit x _).mono ?_); rintro e w1 ⟨rfl, y, rfl⟩))
          go_ret
          exact ⟨rfl, y, rfl⟩
      · have a2' : ¬ (65 : Int) ≤ (x : Int) := by omega
        have c2 : decide ((65 : Int) ≤ (x : Int)) = false := decide_eq_false a2'
        have e : hex x = false := by simp [hex, a0, a1, a2]
        rw [e]
        go_enter Tryz.func43, Tryz.ntmps43
        go_wp2_with (first | (go_at_call 47; (with_reducible refine (kind_digit x _).mono ?_); rintro e w1 ⟨rfl, y, rfl⟩))
        go_ret
        exact ⟨rfl, y, rfl⟩

theorem kind_shx : Kind 53 shx := by
  intro x w
  cases a0 : dig x with
  | true =>
    have e : shx x = true := by simp [shx, a0]
    rw [e]
    go_enter Tryz.func53, Tryz.ntmps53
    go_wp2_with (first | (go_at_call 47; (with_reducible refine (kind_digit x _).mono ?_); rintro e w1 ⟨rfl, y, rfl⟩))
    go_ret
    exact ⟨rfl, y, rfl⟩
  | false =>
    by_cases a1 : 97 ≤ x
    · have a1' : (97 : Int) ≤ (x : Int) := by omega
      have c1 : decide ((97 : Int) ≤ (x : Int)) = true := decide_eq_true a1'
      by_cases b1 : x ≤ 102
      · have b1' : (x : Int) ≤ 102 := by omega
        have d1 : decide ((x : Int) ≤ 102) = true := decide_eq_true b1'
        have e : shx x = true := by simp [shx, a0, a1, b1]
        rw [e]
        go_enter Tryz.func53, Tryz.ntmps53
        go_wp2_with (first | (go_at_call 47; (with_reducible refine (kind_digit x _).mono ?_); rintro e w1 ⟨rfl, y, rfl⟩))
        go_ret
        exact ⟨rfl, y, rfl⟩
      · have b1' : ¬ (x : Int) ≤ 102 := by omega
        have d1 : decide ((x : Int) ≤ 102) = false := decide_eq_false b1'
        have e : shx x = false := by simp [shx, a0, b1]
        rw [e]
        go_enter Tryz.func53, Tryz.ntmps53
        go_wp2_with (first | (go_at_call 47; (with_reducible refine (kind_digit x _).mono ?_); rintro e w1 ⟨rfl, y, rfl⟩))
        go_ret
        exact ⟨rfl, y, rfl⟩
    · have a1' : ¬ (97 : Int) ≤ (x : Int) := by omega
      have c1 : decide ((97 : Int) ≤ (x : Int)) = false := decide_eq_false a1'
      have e : shx x = false := by simp [shx, a0, a1]
      rw [e]
      go_enter Tryz.func53, Tryz.ntmps53
      go_wp2_with (first | (go_at_call 47; (with_reducible refine (kind_digit x _).mono ?_); rintro e w1 ⟨rfl, y, rfl⟩))
      go_ret
      exact ⟨rfl, y, rfl⟩

theorem kind_tch : Kind 44 tch := by
  intro x w
  cases a0 : wrd x with
  | true =>
    have e : tch x = true := by simp [tch, is, a0]
    rw [e]
    go_enter Tryz.func44, Tryz.ntmps44
    go_wp2_with (first | (go_at_call 45; (with_reducible refine (kind_word x _).mono ?_); rintro e w1 ⟨rfl, y, rfl⟩))
    go_ret
    exact ⟨rfl, y, rfl⟩
  | false =>
    by_cases a1 : x = 46
    · have a1' : (x : Int) = 46 := by omega
      have c1 : ((x : Int) == 46) = true := by simp; omega
      have e : tch x = true := by simp [tch, is, a0, a1]
      rw [e]
      clear e a1 a1'
      go_enter Tryz.func44, Tryz.ntmps44
      go_wp2_with (first | (go_at_call 45; (with_reducible refine (kind_word x _).mono ?_); rintro e w1 ⟨rfl, y, rfl⟩))
      go_ret
      exact ⟨rfl, y, rfl⟩
    · have a1' : ¬ (x : Int) = 46 := by omega
      have c1 : ((x : Int) == 46) = false := by simp; omega
      by_cases a2 : x = 45
      · have a2' : (x : Int) = 45 := by omega
        have c2 : ((x : Int) == 45) = true := by simp; omega
        have e : tch x = true := by simp [tch, is, a0, a1, a2]
        rw [e]
        clear e a2 a2'
        go_enter Tryz.func44, Tryz.ntmps44
        go_wp2_with (first | (go_at_call 45; (with_reducible refine (kind_word x _).mono ?_); rintro e w1 ⟨rfl, y, rfl⟩))
        go_ret
        exact ⟨rfl, y, rfl⟩
      · have a2' : ¬ (x : Int) = 45 := by omega
        have c2 : ((x : Int) == 45) = false := by simp; omega
        have e : tch x = false := by simp [tch, is, a0, a1, a2]
        rw [e]
        go_enter Tryz.func44, Tryz.ntmps44
        go_wp2_with (first | (go_at_call 45; (with_reducible refine (kind_word x _).mono ?_); rintro e w1 ⟨rfl, y, rfl⟩))
        go_ret
        exact ⟨rfl, y, rfl⟩

theorem kind_dfx : Kind 51 dfx := by
  intro x w
  cases a0 : wrd x with
  | true =>
    have e : dfx x = true := by simp [dfx, is, a0]
    rw [e]
    go_enter Tryz.func51, Tryz.ntmps51
    go_wp2_with (first | (go_at_call 45; (with_reducible refine (kind_word x _).mono ?_); rintro e w1 ⟨rfl, y, rfl⟩))
    go_ret
    exact ⟨rfl, y, rfl⟩
  | false =>
    by_cases a1 : x = 61
    · have a1' : (x : Int) = 61 := by omega
      have c1 : ((x : Int) == 61) = true := by simp; omega
      have e : dfx x = true := by simp [dfx, is, a0, a1]
      rw [e]
      clear e a1 a1'
      go_enter Tryz.func51, Tryz.ntmps51
      go_wp2_with (first | (go_at_call 45; (with_reducible refine (kind_word x _).mono ?_); rintro e w1 ⟨rfl, y, rfl⟩))
      go_ret
      exact ⟨rfl, y, rfl⟩
    · have a1' : ¬ (x : Int) = 61 := by omega
      have c1 : ((x : Int) == 61) = false := by simp; omega
      by_cases a2 : x = 45
      · have a2' : (x : Int) = 45 := by omega
        have c2 : ((x : Int) == 45) = true := by simp; omega
        have e : dfx x = true := by simp [dfx, is, a0, a1, a2]
        rw [e]
        clear e a2 a2'
        go_enter Tryz.func51, Tryz.ntmps51
        go_wp2_with (first | (go_at_call 45; (with_reducible refine (kind_word x _).mono ?_); rintro e w1 ⟨rfl, y, rfl⟩))
        go_ret
        exact ⟨rfl, y, rfl⟩
      · have a2' : ¬ (x : Int) = 45 := by omega
        have c2 : ((x : Int) == 45) = false := by simp; omega
        have e : dfx x = false := by simp [dfx, is, a0, a1, a2]
        rw [e]
        go_enter Tryz.func51, Tryz.ntmps51
        go_wp2_with (first | (go_at_call 45; (with_reducible refine (kind_word x _).mono ?_); rintro e w1 ⟨rfl, y, rfl⟩))
        go_ret
        exact ⟨rfl, y, rfl⟩

theorem kind_hcl : Kind 70 hcl := by
  intro x w
  cases a0 : hex x with
  | true =>
    have e : hcl x = true := by simp [hcl, is, a0]
    rw [e]
    go_enter Tryz.func70, Tryz.ntmps70
    go_wp2_with (first | (go_at_call 43; (with_reducible refine (kind_hex x _).mono ?_); rintro e w1 ⟨rfl, y, rfl⟩))
    go_ret
    exact ⟨rfl, y, rfl⟩
  | false =>
    by_cases a1 : x = 58
    · have a1' : (x : Int) = 58 := by omega
      have c1 : ((x : Int) == 58) = true := by simp; omega
      have e : hcl x = true := by simp [hcl, is, a0, a1]
      rw [e]
      clear e a1 a1'
      go_enter Tryz.func70, Tryz.ntmps70
      go_wp2_with (first | (go_at_call 43; (with_reducible refine (kind_hex x _).mono ?_); rintro e w1 ⟨rfl, y, rfl⟩))
      go_ret
      exact ⟨rfl, y, rfl⟩
    · have a1' : ¬ (x : Int) = 58 := by omega
      have c1 : ((x : Int) == 58) = false := by simp; omega
      have e : hcl x = false := by simp [hcl, is, a0, a1]
      rw [e]
      go_enter Tryz.func70, Tryz.ntmps70
      go_wp2_with (first | (go_at_call 43; (with_reducible refine (kind_hex x _).mono ?_); rintro e w1 ⟨rfl, y, rfl⟩))
      go_ret
      exact ⟨rfl, y, rfl⟩

theorem kind_anh : Kind 90 anh := by
  intro x w
  cases a0 : aln x with
  | true =>
    have e : anh x = true := by simp [anh, is, a0]
    rw [e]
    go_enter Tryz.func90, Tryz.ntmps90
    go_wp2_with (first | (go_at_call 68; (with_reducible refine (kind_alnum x _).mono ?_); rintro e w1 ⟨rfl, y, rfl⟩))
    go_ret
    exact ⟨rfl, y, rfl⟩
  | false =>
    by_cases a1 : x = 45
    · have a1' : (x : Int) = 45 := by omega
      have c1 : ((x : Int) == 45) = true := by simp; omega
      have e : anh x = true := by simp [anh, is, a0, a1]
      rw [e]
      clear e a1 a1'
      go_enter Tryz.func90, Tryz.ntmps90
      go_wp2_with (first | (go_at_call 68; (with_reducible refine (kind_alnum x _).mono ?_); rintro e w1 ⟨rfl, y, rfl⟩))
      go_ret
      exact ⟨rfl, y, rfl⟩
    · have a1' : ¬ (x : Int) = 45 := by omega
      have c1 : ((x : Int) == 45) = false := by simp; omega
      have e : anh x = false := by simp [anh, is, a0, a1]
      rw [e]
      go_enter Tryz.func90, Tryz.ntmps90
      go_wp2_with (first | (go_at_call 68; (with_reducible refine (kind_alnum x _).mono ?_); rintro e w1 ⟨rfl, y, rfl⟩))
      go_ret
      exact ⟨rfl, y, rfl⟩

theorem kind_hyp : Kind 91 (is 45) := by
  intro x w
  by_cases a0 : x = 45
  · have a0' : (x : Int) = 45 := by omega
    have c0 : ((x : Int) == 45) = true := by simp; omega
    have e : (is 45) x = true := by simp [is, a0]
    rw [e]
    clear e a0 a0'
    go_enter Tryz.func91, Tryz.ntmps91
    go_wp2
    go_ret
    exact ⟨rfl, Ext.here _⟩
  · have a0' : ¬ (x : Int) = 45 := by omega
    have c0 : ((x : Int) == 45) = false := by simp; omega
    have e : (is 45) x = false := by simp [is, a0]
    rw [e]
    go_enter Tryz.func91, Tryz.ntmps91
    go_wp2
    go_ret
    exact ⟨rfl, Ext.here _⟩

theorem kind_nlow : Kind 72 nlow := by
  intro x w
  unfold nlow
  cases a0 : low x with
  | true =>
    go_enter Tryz.func72, Tryz.ntmps72
    go_wp2_with (first | (go_at_call 52; (with_reducible refine (kind_lower x _).mono ?_); rintro e w1 ⟨rfl, y, rfl⟩))
    go_ret
    exact ⟨rfl, y, rfl⟩
  | false =>
    go_enter Tryz.func72, Tryz.ntmps72
    go_wp2_with (first | (go_at_call 52; (with_reducible refine (kind_lower x _).mono ?_); rintro e w1 ⟨rfl, y, rfl⟩))
    go_ret
    exact ⟨rfl, y, rfl⟩

end Go.Proofs.YtooggfopjaaejaaGreatDoor
namespace Go.Proofs.YtooggfopjaaejaaGreatDoor
open Go.RowKit Go.Rx
attribute [local go_sem] Ext.cell Ext.frozen Ext.lt Ext.lt_add Ext.cell2 Ext.frozen2

theorem oinst_any (r : Run) (h : RunOk r) (ao no : Option Addr) (m c nm nk : Nat) (dn : Int) (k : Nat) (hk : k < r.n) (w : World) :
    Calls Tryz.prog 97 #[.agg #[.int .i64 r.n, .int .u8 r.op, .int .i64 r.out, .int .i64 r.dout, .int .i64 r.arg, .int .i64 r.darg, .slice ao m c, .slice no nm nk, .int .i64 dn], .int .i64 k] w fun e w' => e = .returned (.agg #[.int .u8 (r.inst k).op, .int .u32 (r.inst k).out, .int .u32 (r.inst k).arg, .slice ao m c]) ∧ ∃ x : Ext w, w' = x.now := by
  obtain ⟨o1, o2⟩ := h.out k hk
  obtain ⟨a1, a2⟩ := h.arg k hk
  have hn := h.n
  obtain ⟨o, ho⟩ : ∃ o, (r.inst k).out = o := ⟨_, rfl⟩
  obtain ⟨a, ha⟩ : ∃ a, (r.inst k).arg = a := ⟨_, rfl⟩
  rw [ho] at o1 o2 ⊢
  rw [ha] at a1 a2 ⊢
  have e0 : (r.inst k).op = r.op := rfl
  rw [e0]
  obtain ⟨n, op, out, dout, arg, darg, rune⟩ := r
  dsimp only at *
  have h3 := h.op
  obtain ⟨l1, l2⟩ := h.lim
  dsimp only at h3 l1 l2
  clear h ho ha e0
  go_enter Tryz.func97, Tryz.ntmps97
  go_wp2_with fail
  exact bodyPost_ret (v := .agg #[.int .u8 op, .int .u32 o, .int .u32 a, .slice ao m c]) (by simp [results, Tryz.results97, go_sem]) rfl ⟨rfl, Ext.alloc2 _ _ _⟩

set_option maxRecDepth 1000000 in
set_option maxHeartbeats 4000000 in
theorem ozz_insts (w : World) (B : Nat) (l : List (Run × Sl)) (c : Nat) (hB : RunsAt w B l) (hBl : B < w.heap.size) (hok : ∀ x, x ∈ l → RunOk x.1) (hl : l.length ≤ 1000) :
    Calls Tryz.prog 85 #[.slice (some ⟨B, 0, none⟩) l.length c] w fun e w' => ∃ v, e = .returned v ∧ Wrote w l l.length v w' := by
  have HB := Lib.hid hB
  have HK := Lib.hid hok
  have HT := Lib.hid (total_le (l.take l.length) (fun x hx => hok x (List.mem_of_mem_take hx)))
  clear hB hok
  go_enter Tryz.func85, Tryz.ntmps85
  go_wp2_with fail
  go_loopw [3, 9] (fun v t wr => ∃ i : Nat, i ≤ l.length ∧ t = .int .i64 i ∧ Wrote w l i v wr) (fun _ t _ => l.length - (intOf t).toNat)
  case atStart => exact ⟨0, Nat.zero_le _, rfl, by simpa [total, allCells] using World.ownsRow_nil w w.heap.size 109 4, Ext.refl w, rfl⟩
  case round =>
    obtain ⟨i, hi, rfl, hown, x, rfl⟩ := hrel
    by_cases hlt : i < l.length
    · have hlt' : (i : Int) < (l.length : Int) := by omega
      obtain ⟨y, hy⟩ : ∃ y, l[i]? = some y := ⟨_, List.getElem?_eq_getElem hlt⟩
      have hyo := HK.out y (List.mem_of_getElem? hy)
      have hyn := hyo.n
      have hRA := HB.out i y hy
      have cc : ∀ j u, (runCells y.1 (slV y.2))[j]? = some u → x.now.cell? ⟨B, i * 9 + j, none⟩ = some u := fun j u h => by rw [x.cell B (i * 9 + j) hBl]; exact hRA j u h
      have hT0 : total (l.take i) ≤ 1000000 := by
        have := total_le (l.take i) (fun x hx => HK.out x (List.mem_of_mem_take hx))
        rw [List.length_take] at this
        have : min i l.length ≤ 1000 := by omega
        omega
      obtain ⟨r, ao, m, cv⟩ := y
      obtain ⟨n, op, out, dout, arg, darg, rune⟩ := r
      have c0 := cc 0 _ rfl
      have c1 := cc 1 _ rfl
      have c2 := cc 2 _ rfl
      have c3 := cc 3 _ rfl
      have c4 := cc 4 _ rfl
      have c5 := cc 5 _ rfl
      have c6 := cc 6 _ rfl
      have c7 := cc 7 _ rfl
      have c8 := cc 8 _ rfl
      simp only [Nat.add_zero, slV] at c0 c1 c2 c3 c4 c5 c6 c7 c8
      dsimp only at hyn
      have HY := Lib.hid hyo
      have HYI := Lib.hid hy
      have HOWN := Lib.hid hown
      have hBx := x.lt B hBl
      clear hyo hy hRA cc hown
      go_wp2_with fail
      obtain ⟨w1, hw1⟩ : ∃ w1, w1 = x.now.alloc (Obj.cells #[.int .i64 n, .int .u8 op, .int .i64 out, .int .i64 dout, .int .i64 arg, .int .i64 darg, .slice ao m cv, .slice none 0 0, .int .i64 0] 179) := ⟨_, rfl⟩
      obtain ⟨BV, hBV⟩ : ∃ BV, x.now.heap.size = BV := ⟨_, rfl⟩
      rw [← hw1, hBV]
      have bBV : Blk w1 BV [.int .i64 n, .int .u8 op, .int .i64 out, .int .i64 dout, .int .i64 arg, .int .i64 darg, .slice ao m cv, .slice none 0 0, .int .i64 0] 179 := by rw [hw1, ← hBV]; exact Blk.new _ _ _
      have own1 : w1.ownsRow w.heap.size 109 4 u3 (total (l.take i)) (allCells (l.take i)) := by rw [hw1]; exact HOWN.out.alloc _
      have hne : u3.ownBlock ≠ some BV := fun e => by have := (HOWN.out.lt BV e).2; omega
      have hx1 : ∃ y : Ext w, w1 = y.now := by rw [hw1]; exact Ext.both x (Ext.one x.now _)
      have W1 := Lib.hid bBV
      have W2 := Lib.hid own1
      have W3 := Lib.hid hx1
      clear hw1 bBV own1 hx1 c0 c1 c2 c3 c4 c5 c6 c7 c8
      go_loopw [3, 6] (fun v t wr => ∃ k : Nat, k ≤ n ∧ t = .int .i64 k ∧ WroteIn w l i (⟨n, op, out, dout, arg, darg, rune⟩, ao, m, cv) k v wr ∧ Blk wr BV [.int .i64 n, .int .u8 op, .int .i64 out, .int .i64 dout, .int .i64 arg, .int .i64 darg, .slice ao m cv, .slice none 0 0, .int .i64 0] 179 ∧ v.ownBlock ≠ some BV) (fun _ t _ => n - (intOf t).toNat)
      case atStart => exact ⟨0, Nat.zero_le _, rfl, ⟨by simpa [rowCells] using W2.out, W3.out⟩, W1.out, hne⟩
      case round =>
        obtain ⟨k, hk, rfl, ⟨hwo, y, rfl⟩, hbv, hnb⟩ := hrel
        have d0 : y.now.cell? ⟨BV, 0, none⟩ = some (.int .i64 n) := (hbv.cell 0).trans rfl
        have d1 : y.now.cell? ⟨BV, 1, none⟩ = some (.int .u8 op) := (hbv.cell 1).trans rfl
        have d2 : y.now.cell? ⟨BV, 2, none⟩ = some (.int .i64 out) := (hbv.cell 2).trans rfl
        have d3 : y.now.cell? ⟨BV, 3, none⟩ = some (.int .i64 dout) := (hbv.cell 3).trans rfl
        have d4 : y.now.cell? ⟨BV, 4, none⟩ = some (.int .i64 arg) := (hbv.cell 4).trans rfl
        have d5 : y.now.cell? ⟨BV, 5, none⟩ = some (.int .i64 darg) := (hbv.cell 5).trans rfl
        have d6 : y.now.cell? ⟨BV, 6, none⟩ = some (.slice ao m cv) := (hbv.cell 6).trans rfl
        have d7 : y.now.cell? ⟨BV, 7, none⟩ = some (.slice none 0 0) := (hbv.cell 7).trans rfl
        have d8 : y.now.cell? ⟨BV, 8, none⟩ = some (.int .i64 0) := (hbv.cell 8).trans rfl
        have hBVl := hbv.lt
        have V1 := Lib.hid hwo
        have V2 := Lib.hid hbv
        have V3 := Lib.hid hnb
        clear hwo hbv hnb
        by_cases hkn : k < n
        · have hkn' : (k : Int) < (n : Int) := by omega
          have hinst := oinst_any ⟨n, op, out, dout, arg, darg, rune⟩ HY.out ao none m cv 0 0 0 k hkn y.now
          dsimp only at hinst
          have HI := Lib.hid hinst
          clear hinst
          go_wp2_with (first | (go_at_call 97; (with_reducible refine HI.out.mono ?_); rintro e w2 ⟨rfl, z, rfl⟩) | (at_builtin; refine inst_append _ rfl _ _ rfl w.heap.size (total (l.take i) + k) u3 (allCells (l.take i) ++ rowCells (⟨n, op, out, dout, arg, darg, rune⟩, ao, m, cv) k) rfl ((own_chg_any V1.out (Chg.of_below z.below) (fun b _ => by simp)).alloc _) ⟨z.now.heap.size, 0, none⟩ 1 (instCells (Run.inst ⟨n, op, out, dout, arg, darg, rune⟩ k) (.slice ao m cv)) rfl rfl (by intro j u hu; match j, hu with | 0, hu => simpa [instCells, Addr.add] using hu | 1, hu => simpa [instCells, Addr.add] using hu | 2, hu => simpa [instCells, Addr.add] using hu | 3, hu => simpa [instCells, Addr.add] using hu | j + 4, hu => simp [instCells] at hu) (by intro u hu; simp [instCells] at hu; rcases hu with rfl | rfl | rfl | rfl <;> rfl) (by omega) (by simp; have := z.le; have := y.le; omega) ?_))
          intro g cap w3 hown3 hgr3 hat3
          have H1 := Lib.hid hown3
          have H2 := Lib.hid hgr3
          have H3 := Lib.hid hat3
          clear hown3 hgr3 hat3
          go_wp2_with fail
          have hz := z.le
          have ho0 : (z.now.alloc (Obj.cells (instCells (Run.inst ⟨n, op, out, dout, arg, darg, rune⟩ k) (.slice ao m cv)).toArray 109)).ownsRow w.heap.size 109 4 u3 (total (l.take i) + k) (allCells (l.take i) ++ rowCells (⟨n, op, out, dout, arg, darg, rune⟩, ao, m, cv) k) := (own_chg_any V1.out (Chg.of_below z.below) (fun b _ => by simp)).alloc _
          refine ⟨⟨k + 1, by omega, by simp, ⟨?_, ?_⟩, ?_, ?_⟩, by simp [intOf]; omega⟩
          · rw [rowCells_succ]
            exact H1.out
          · obtain ⟨yz, hyz⟩ := Ext.both y (z.trans (Ext.one z.now (Obj.cells (instCells (Run.inst ⟨n, op, out, dout, arg, darg, rune⟩ k) (.slice ao m cv)).toArray 109)))
            exact Ext.grown yz hyz ho0 H2.out
          · refine Eq.trans ?_ ((V2.out.chg (Chg.of_below z.below) (by simp)).alloc (Obj.cells (instCells (Run.inst ⟨n, op, out, dout, arg, darg, rune⟩ k) (.slice ao m cv)).toArray 109))
            refine H2.out.block BV (by simp; omega) ?_
            exact fun e => V3.out e.symm
          · intro e
            simp [Value.ownBlock] at e
            rcases H3.out with h | h
            · exact V3.out (by rw [h, e])
            · omega
        · have hke : k = n := by omega
          subst hke
          have hkn' : ¬ (k : Int) < (k : Int) := by omega
          go_wp2_with fail
          refine ⟨⟨i + 1, by omega, by simp, ?_, y, rfl⟩, by simp [intOf]; omega⟩
          rw [allCells_take HYI.out, total_take HYI.out]
          exact V1.out
    · have hil : i = l.length := by omega
      subst hil
      have hlt' : ¬ (l.length : Int) < (l.length : Int) := by omega
      have HOWN := Lib.hid hown
      clear hown
      go_wp2_with fail
      go_ret
      exact ⟨_, rfl, HOWN.out, x, rfl⟩


theorem onew_string (w : World) (B o : Nat) (s v : ByteArray) (h : w.cell? ⟨B, o, none⟩ = some (.string v)) (hf : w.frozen? ⟨B, o, none⟩ = false) (hB : B < w.heap.size) :
    Calls Tryz.prog 111 #[.pointer (some ⟨B, o, none⟩), .string s] w fun e w' => e = .returned (.iface 229 (.pointer (some ⟨B, o, none⟩))) ∧ w' = w.setCell ⟨B, o, none⟩ (.string s) := by
  go_enter Tryz.func111, Tryz.ntmps111
  go_wp2_with fail
  go_ret
  exact ⟨rfl, rfl⟩

theorem oinputs_init (w : World) (B o : Nat) (s v : ByteArray) (hs : s.size < 100000000000) (h : w.cell? ⟨B, o, none⟩ = some (.string v)) (hf : w.frozen? ⟨B, o, none⟩ = false) (hB : B < w.heap.size) :
    Calls Tryz.prog 106 #[.pointer (some ⟨B, o, none⟩), .nilIface, .slice none 0 0, .string s] w fun e w' => e = .returned (.tuple #[.iface 229 (.pointer (some ⟨B, o, none⟩)), .int .i64 s.size]) ∧ w' = w.setCell ⟨B, o, none⟩ (.string s) := by
  have hn := onew_string w B o s v h hf hB
  go_enter Tryz.func106, Tryz.ntmps106
  go_wp2_with (first | (go_at_call 111; (with_reducible refine hn.mono ?_); rintro e w' ⟨rfl, rfl⟩))
  go_ret2
  exact ⟨rfl, rfl⟩

theorem oinputs_clear (w : World) (B o : Nat) (v : ByteArray) (h : w.cell? ⟨B, o, none⟩ = some (.string v)) (hf : w.frozen? ⟨B, o, none⟩ = false) (hB : B < w.heap.size) :
    Calls Tryz.prog 112 #[.pointer (some ⟨B, o, none⟩)] w fun e w' => e = .returned (.tuple #[]) ∧ w' = w.setCell ⟨B, o, none⟩ (.string ByteArray.empty) := by
  go_enter Tryz.func112, Tryz.ntmps112
  go_wp2_with fail
  go_end0
  exact ⟨rfl, rfl⟩

theorem ostep_in {o : Nat} (B pos : Nat) (s : ByteArray) (w : World) (hs : w.cell? ⟨B, o, none⟩ = some (.string s)) (hpos : pos < s.size) (hb : (s[pos]'hpos).toNat < 128) (hsz : s.size < 100000000000) :
    Calls Tryz.prog 170 #[.pointer (some ⟨B, o, none⟩), .int .i64 pos] w fun e w' => e = .returned (.tuple #[.int .i32 ((s[pos]'hpos).toNat : Nat), .int .i64 1]) ∧ w' = w := by
  have h0 : 0 < (s.extract pos s.size).size := by simp [ByteArray.size_extract]; omega
  have hat : (s.extract pos s.size)[0]'h0 = s[pos]'hpos := by simp [ByteArray.getElem_extract]
  have hd := dec_plain (s.extract pos s.size) w h0 (by rw [hat]; exact hb)
  rw [hat] at hd
  go_enter Tryz.func170, Tryz.ntmps170
  go_wp2_with (first | (go_at_call 162; (with_reducible refine hd.mono ?_); rintro e w' ⟨rfl, rfl⟩))
  go_ret2
  exact ⟨rfl, rfl⟩

theorem ostep_end {o : Nat} (B pos : Nat) (s : ByteArray) (w : World) (hs : w.cell? ⟨B, o, none⟩ = some (.string s)) (hpos : ¬ pos < s.size) :
    Calls Tryz.prog 170 #[.pointer (some ⟨B, o, none⟩), .int .i64 pos] w fun e w' => e = .returned (.tuple #[.int .i32 (-1), .int .i64 0]) ∧ w' = w := by
  go_enter Tryz.func170, Tryz.ntmps170
  go_wp2_with fail
  go_ret2
  exact ⟨rfl, rfl⟩

theorem ostep_at {o : Nat} (B p : Nat) (s : ByteArray) (hs : Plain s) (hsz : s.size < 100000000000) (w : World) (h : w.cell? ⟨B, o, none⟩ = some (.string s)) :
    Calls Tryz.prog 170 #[.pointer (some ⟨B, o, none⟩), .int .i64 p] w fun e w' => e = .returned (.tuple #[.int .i32 (runeAt s p), .int .i64 (wdAt s p : Nat)]) ∧ w' = w := by
  by_cases hp : p < s.size
  · rw [wdAt_in hp]
    have e : runeAt s p = ((s[p]'hp).toNat : Nat) := by unfold runeAt; rw [dif_pos hp]
    rw [e]
    exact ostep_in B p s w h hp (hs p hp) hsz
  · rw [wdAt_out hp, runeAt_out hp]
    exact ostep_end B p s w h hp


theorem oflag_new (r1 r2 : Int) (w : World) : Calls Tryz.prog 107 #[.int .i32 r1, .int .i32 r2] w fun e w' => e = .returned (.int .u64 (flagOf r1 r2)) ∧ w' = w := by
  go_enter Tryz.func107, Tryz.ntmps107
  go_wp2_with fail
  go_ret
  exact ⟨rfl, rfl⟩

theorem oflag_begin (f : Int) (w : World) : Calls Tryz.prog 108 #[.int .u64 f, .int .u8 4] w fun e w' => e = .returned (.bool (decide (wrap32 (f / 4294967296) < 0))) ∧ w' = w := by
  by_cases h : wrap32 (f / 4294967296) < 0
  · rw [decide_eq_true h]
    go_enter Tryz.func108, Tryz.ntmps108
    go_wp2_with fail
    go_ret
    exact ⟨rfl, rfl⟩
  · rw [decide_eq_false h]
    have h' : 0 ≤ wrap32 (f / 4294967296) := by omega
    go_enter Tryz.func108, Tryz.ntmps108
    go_wp2_with fail
    go_ret
    exact ⟨rfl, rfl⟩

theorem oflag_end (f : Int) (w : World) : Calls Tryz.prog 108 #[.int .u64 f, .int .u8 8] w fun e w' => e = .returned (.bool (decide (wrap32 f < 0))) ∧ w' = w := by
  by_cases h : wrap32 f < 0
  · rw [decide_eq_true h]
    go_enter Tryz.func108, Tryz.ntmps108
    go_wp2_with fail
    go_ret
    exact ⟨rfl, rfl⟩
  · rw [decide_eq_false h]
    have h' : 0 ≤ wrap32 f := by omega
    go_enter Tryz.func108, Tryz.ntmps108
    go_wp2_with fail
    go_ret
    exact ⟨rfl, rfl⟩

theorem ofree (w : World) (B : Nat) (v : ByteArray) (h : w.cell? ⟨B, 0, none⟩ = some (.string v)) (hf : w.frozen? ⟨B, 0, none⟩ = false) (hB : B < w.heap.size) :
    Calls Tryz.prog 110 #[.pointer (some ⟨B, 0, none⟩)] w fun e w' => e = .returned (.tuple #[]) ∧ w' = w.setCell ⟨B, 0, none⟩ (.string ByteArray.empty) := by
  have hn := oinputs_clear w B 0 v h hf hB
  go_enter Tryz.func110, Tryz.ntmps110
  go_wp2_with (first | (go_at_call 112; (with_reducible refine hn.mono ?_); rintro e w' ⟨rfl, rfl⟩))
  go_end0
  exact ⟨rfl, rfl⟩

theorem onew (w : World) : Calls Tryz.prog 105 #[] w fun e w' => e = .returned (.pointer (some ⟨w.heap.size, 0, none⟩)) ∧
    Blk w' w.heap.size [.string ByteArray.empty, .slice none 0 0] 215 ∧ Chg [] w w' ∧ w'.heap.size = w.heap.size + 1 := by
  go_enter Tryz.func105, Tryz.ntmps105
  go_wp2_with fail
  go_ret
  exact ⟨rfl, Blk.new _ _ _, Chg.alloc _ _, by simp⟩

end Go.Proofs.YtooggfopjaaejaaGreatDoor
