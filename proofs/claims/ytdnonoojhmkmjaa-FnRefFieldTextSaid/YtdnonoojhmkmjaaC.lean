/-
The walks of the specification's side and of the law.
-/
import Derived.Test.YtdnonoojhmkmjaaB
namespace Go.Proofs.Ytdnonoojhmkmjaa
open Go.RowKit
attribute [local go_sem] Ext.cell Ext.frozen Ext.lt Ext.lt_add Ext.cell2 Ext.frozen2

abbrev rv (d p t g : ByteArray) : Value := .agg #[.string d, .string p, .string t, .string g]

def fitsB (d p t g : ByteArray) : Bool := decide (d.size ≤ 2147483647) && decide (p.size ≤ 2147483647) && decide (t.size ≤ 2147483647) && decide (g.size ≤ 2147483647)

theorem fits_any (d p t g : ByteArray) (w : World) :
    Calls Try.prog 4 #[rv d p t g] w fun e w' => e = .returned (.bool (fitsB d p t g)) ∧ ∃ x : Ext w, w' = x.now := by
  by_cases a1 : d.size ≤ 2147483647
  · by_cases a2 : p.size ≤ 2147483647
    · by_cases a3 : t.size ≤ 2147483647
      · by_cases a4 : g.size ≤ 2147483647
        · have hg : fitsB d p t g = true := by simp [fitsB, a1, a2, a3, a4]
          rw [hg]
          go_enter Try.func4, Try.ntmps4
          go_wp2
          go_ret
          exact ⟨rfl, Ext.alloc1 _ _⟩
        · have hg : fitsB d p t g = false := by simp [fitsB, a1, a2, a3, a4]
          rw [hg]
          go_enter Try.func4, Try.ntmps4
          go_wp2
          go_ret
          exact ⟨rfl, Ext.alloc1 _ _⟩
      · have hg : fitsB d p t g = false := by simp [fitsB, a1, a2, a3]
        rw [hg]
        go_enter Try.func4, Try.ntmps4
        go_wp2
        go_ret
        exact ⟨rfl, Ext.alloc1 _ _⟩
    · have hg : fitsB d p t g = false := by simp [fitsB, a1, a2]
      rw [hg]
      go_enter Try.func4, Try.ntmps4
      go_wp2
      go_ret
      exact ⟨rfl, Ext.alloc1 _ _⟩
  · have hg : fitsB d p t g = false := by simp [fitsB, a1]
    rw [hg]
    go_enter Try.func4, Try.ntmps4
    go_wp2
    go_ret
    exact ⟨rfl, Ext.alloc1 _ _⟩

def shortB (d p t g : ByteArray) : Bool := decide (d.size + p.size + t.size + g.size ≤ 65536) && (!p.toList.isEmpty || d.toList.isEmpty)

theorem short_any (d p t g : ByteArray) (w : World) (hf : fitsB d p t g = true) :
    Calls Try.prog 5 #[rv d p t g] w fun e w' => e = .returned (.bool (shortB d p t g)) ∧ ∃ x : Ext w, w' = x.now := by
  simp only [fitsB, Bool.and_eq_true, decide_eq_true_eq] at hf
  obtain ⟨⟨⟨f1, f2⟩, f3⟩, f4⟩ := hf
  by_cases a1 : d.size + p.size + t.size + g.size ≤ 65536
  · have a1' : decide ((d.size : Int) + p.size + t.size + g.size ≤ 65536) = true := by simp; omega
    cases hp : p.toList.isEmpty with
    | false =>
      have hg : shortB d p t g = true := by simp [shortB, a1, hp]
      rw [hg]
      go_enter Try.func5, Try.ntmps5
      go_wp2
      go_ret
      exact ⟨rfl, Ext.alloc1 _ _⟩
    | true =>
      cases hd : d.toList.isEmpty with
      | true =>
        have hg : shortB d p t g = true := by simp [shortB, a1, hd]
        rw [hg]
        go_enter Try.func5, Try.ntmps5
        go_wp2
        go_ret
        exact ⟨rfl, Ext.alloc1 _ _⟩
      | false =>
        have hg : shortB d p t g = false := by simp [shortB, hp, hd]
        rw [hg]
        go_enter Try.func5, Try.ntmps5
        go_wp2
        go_ret
        exact ⟨rfl, Ext.alloc1 _ _⟩
  · have a1' : decide ((d.size : Int) + p.size + t.size + g.size ≤ 65536) = false := by simp; omega
    have hg : shortB d p t g = false := by simp [shortB, a1]
    rw [hg]
    go_enter Try.func5, Try.ntmps5
    go_wp2
    go_ret
    exact ⟨rfl, Ext.alloc1 _ _⟩

end Go.Proofs.Ytdnonoojhmkmjaa
