/-
The walks of the specification's text, and of the law.
-/
import Derived.Test.YtdnonoojhmkmjaaC
namespace Go.Proofs.Ytdnonoojhmkmjaa
open Go.RowKit
attribute [local go_sem] Ext.cell Ext.frozen Ext.lt Ext.lt_add Ext.cell2 Ext.frozen2

/-- The text of four parts, as the specification writes it. -/
def specText (d p t g : ByteArray) : ByteArray :=
  if p.toList.isEmpty = true then g
  else if t.toList.isEmpty = true then (if g.toList.isEmpty = true then nm d p else nm d p ++ (⟨#[64]⟩ ++ g))
  else (if g.toList.isEmpty = true then nm d p ++ (⟨#[58]⟩ ++ t) else nm d p ++ (⟨#[58]⟩ ++ t) ++ (⟨#[64]⟩ ++ g))

theorem specText_any (d p t g : ByteArray) (w : World) (hs : d.size + p.size + t.size + g.size ≤ 65536) :
    Calls Try.prog 8 #[rv d p t g] w fun e w' => e = .returned (.string (specText d p t g)) ∧ ∃ x : Ext w, w' = x.now := by
  have hn := fun W => specName_any d p t g W (by omega)
  have hz := nm_size d p
  unfold specText
  by_cases h1 : p.toList.isEmpty = true
  · rw [if_pos h1]
    go_enter Try.func8, Try.ntmps8
    go_wp2_with (go_at_call 12; (with_reducible refine (hn _).mono ?_); rintro e w' ⟨rfl, x, rfl⟩)
    go_ret
    exact ⟨rfl, Ext.alloc1 _ _⟩
  · rw [if_neg h1]
    have h1' : p.toList.isEmpty = false := by simpa using h1
    clear h1
    by_cases h2 : t.toList.isEmpty = true
    · rw [if_pos h2]
      by_cases h3 : g.toList.isEmpty = true
      · rw [if_pos h3]
        go_enter Try.func8, Try.ntmps8
        go_wp2_with (go_at_call 12; (with_reducible refine (hn _).mono ?_); rintro e w' ⟨rfl, x, rfl⟩)
        go_ret
        exact ⟨rfl, Ext.via x⟩
      · rw [if_neg h3]
        have h3' : g.toList.isEmpty = false := by simpa using h3
        clear h3
        go_enter Try.func8, Try.ntmps8
        go_wp2_with (go_at_call 12; (with_reducible refine (hn _).mono ?_); rintro e w' ⟨rfl, x, rfl⟩)
        go_ret
        exact ⟨rfl, Ext.via x⟩
    · rw [if_neg h2]
      have h2' : t.toList.isEmpty = false := by simpa using h2
      clear h2
      by_cases h3 : g.toList.isEmpty = true
      · rw [if_pos h3]
        go_enter Try.func8, Try.ntmps8
        go_wp2_with (go_at_call 12; (with_reducible refine (hn _).mono ?_); rintro e w' ⟨rfl, x, rfl⟩)
        go_ret
        exact ⟨rfl, Ext.via x⟩
      · rw [if_neg h3]
        have h3' : g.toList.isEmpty = false := by simpa using h3
        clear h3
        go_enter Try.func8, Try.ntmps8
        go_wp2_with (go_at_call 12; (with_reducible refine (hn _).mono ?_); rintro e w' ⟨rfl, x, rfl⟩)
        go_ret
        exact ⟨rfl, Ext.via x⟩

/-- What RefTells says: 0 just if there is neither a path nor a digest. -/
def tellsN (p t g : ByteArray) : Int :=
  if p.toList.isEmpty = true then (if g.toList.isEmpty = true then 0 else 4)
  else (if g.toList.isEmpty = true then (if t.toList.isEmpty = true then 1 else 3) else (if t.toList.isEmpty = true then 5 else 7))

theorem tells_any (d p t g : ByteArray) (w : World) :
    Calls Try.prog 6 #[rv d p t g] w fun e w' => e = .returned (.int .i64 (tellsN p t g)) ∧ ∃ x : Ext w, w' = x.now := by
  unfold tellsN
  cases h1 : p.toList.isEmpty <;> cases h2 : g.toList.isEmpty <;> cases h3 : t.toList.isEmpty <;> simp only [Bool.false_eq_true, if_true, if_false]
  all_goals
    go_enter Try.func6, Try.ntmps6
    go_wp2
    go_ret
    exact ⟨rfl, Ext.alloc1 _ _⟩

end Go.Proofs.Ytdnonoojhmkmjaa
