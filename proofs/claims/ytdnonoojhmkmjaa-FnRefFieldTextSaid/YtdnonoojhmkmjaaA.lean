/-
The walks of the small functions that a reference's text reaches.
-/
import Derived.Test.YtdnonoojhmkmjaaProg
import Derived.Test.YtdnonoojhmkmjaaExt
import Derived.IntWalk
import Derived.Outline
import Derived.OwnWalk
import Derived.BigQuiet
import Derived.WalkSpells
import Derived.Laws.IdiomStrings
namespace Go.Proofs.Ytdnonoojhmkmjaa
open Go.RowKit
attribute [local go_sem] Ext.cell Ext.frozen Ext.lt Ext.lt_add Ext.cell2 Ext.frozen2

/-- The name of a domain and a path. -/
def nm (d p : ByteArray) : ByteArray := if d.toList.isEmpty = true then p else d ++ ⟨#[47]⟩ ++ p

/-- (repository).Name -/
theorem name_any (d p : ByteArray) (w : World) (hs : d.size + p.size ≤ 100000) :
    Calls Try.prog 32 #[.agg #[.string d, .string p]] w fun e w' => e = .returned (.string (nm d p)) ∧ ∃ x : Ext w, w' = x.now := by
  unfold nm
  by_cases hd : d.toList.isEmpty = true
  · rw [if_pos hd]
    go_enter Try.func32, Try.ntmps32
    go_wp2
    go_ret
    exact ⟨rfl, Ext.alloc1 _ _⟩
  · rw [if_neg hd]
    have hd' : d.toList.isEmpty = false := by simpa using hd
    clear hd
    go_enter Try.func32, Try.ntmps32
    go_wp2
    go_ret
    exact ⟨rfl, Ext.alloc1 _ _⟩

/-- spec.RefName -/
theorem specName_any (d p t g : ByteArray) (w : World) (hs : d.size + p.size ≤ 100000) :
    Calls Try.prog 12 #[.agg #[.string d, .string p, .string t, .string g]] w fun e w' => e = .returned (.string (nm d p)) ∧ ∃ x : Ext w, w' = x.now := by
  unfold nm
  by_cases hd : d.toList.isEmpty = true
  · rw [if_pos hd]
    go_enter Try.func12, Try.ntmps12
    go_wp2
    go_ret
    exact ⟨rfl, Ext.alloc1 _ _⟩
  · rw [if_neg hd]
    have hd' : d.toList.isEmpty = false := by simpa using hd
    clear hd
    go_enter Try.func12, Try.ntmps12
    go_wp2
    go_ret
    exact ⟨rfl, Ext.alloc1 _ _⟩

/-- (repository).String -/
theorem repoString_any (d p : ByteArray) (w : World) (hs : d.size + p.size ≤ 100000) :
    Calls Try.prog 33 #[.agg #[.string d, .string p]] w fun e w' => e = .returned (.string (nm d p)) ∧ ∃ x : Ext w, w' = x.now := by
  have hn := fun W => name_any d p W hs
  go_enter Try.func33, Try.ntmps33
  go_wp2_with (go_at_call 32; (with_reducible refine (hn _).mono ?_); rintro e w' ⟨rfl, x, rfl⟩)
  go_ret
  exact ⟨rfl, Ext.via x⟩

/-- (Digest).String -/
theorem digString_any (g : ByteArray) (w : World) :
    Calls Try.prog 35 #[.string g] w fun e w' => e = .returned (.string g) ∧ ∃ x : Ext w, w' = x.now := by
  go_enter Try.func35, Try.ntmps35
  go_wp2
  go_ret
  exact ⟨rfl, Ext.refl w, rfl⟩

/-- (digestReference).String -/
theorem drString_any (g : ByteArray) (w : World) :
    Calls Try.prog 37 #[.string g] w fun e w' => e = .returned (.string g) ∧ ∃ x : Ext w, w' = x.now := by
  have hn := fun W => digString_any g W
  go_enter Try.func37, Try.ntmps37
  go_wp2_with (go_at_call 35; (with_reducible refine (hn _).mono ?_); rintro e w' ⟨rfl, x, rfl⟩)
  go_ret
  exact ⟨rfl, x, rfl⟩

theorem meth_name (d p : ByteArray) (w : World) : (method 172 44 (.agg #[.string d, .string p]) "Name").run Try.prog w = .ok (32, .agg #[.string d, .string p]) w := by kernel_rfl

theorem nm_size (d p : ByteArray) : (nm d p).size ≤ d.size + 1 + p.size := by
  unfold nm
  split
  · omega
  · have : (⟨#[47]⟩ : ByteArray).size = 1 := rfl
    simp [ByteArray.size_append, this]

/-- (taggedReference).String -/
theorem trString_any (d p t : ByteArray) (w : World) (hs : d.size + p.size + t.size ≤ 100000) :
    Calls Try.prog 39 #[.agg #[.iface 44 (.agg #[.string d, .string p]), .string t]] w fun e w' => e = .returned (.string (nm d p ++ ⟨#[58]⟩ ++ t)) ∧ ∃ x : Ext w, w' = x.now := by
  have hn := fun W => name_any d p W (by omega)
  have hm := meth_name d p
  have hz := nm_size d p
  have b1 : ¬ 9223372036854775807 < (nm d p).size + 1 := by omega
  have b2 : ¬ 9223372036854775807 < (nm d p).size + 1 + t.size := by omega
  go_enter Try.func39, Try.ntmps39
  go_wp2
  refine wp_region_ext (by kernel_rfl) (by kernel_rfl) ?_
  repeat (quiet_step (first
    | (go_at_call 32; with_reducible exact calls_ext (hn _))))
  refine wpQuiet_nil ?_
  rintro w' ⟨y, rfl⟩
  go_wp2
  go_ret
  exact ⟨rfl, Ext.via y⟩

/-- (canonicalReference).String -/
theorem crString_any (d p g : ByteArray) (w : World) (hs : d.size + p.size + g.size ≤ 100000) :
    Calls Try.prog 38 #[.agg #[.iface 44 (.agg #[.string d, .string p]), .string g]] w fun e w' => e = .returned (.string (nm d p ++ ⟨#[64]⟩ ++ g)) ∧ ∃ x : Ext w, w' = x.now := by
  have hn := fun W => name_any d p W (by omega)
  have hm := meth_name d p
  have hz := nm_size d p
  have b1 : ¬ 9223372036854775807 < (nm d p).size + 1 := by omega
  have b2 : ¬ 9223372036854775807 < (nm d p).size + 1 + g.size := by omega
  have hg := fun W => digString_any g W
  go_enter Try.func38, Try.ntmps38
  go_wp2
  refine wp_region_ext (by kernel_rfl) (by kernel_rfl) ?_
  repeat (quiet_step (first
    | (go_at_call 32; with_reducible exact calls_ext (hn _))
    | (go_at_call 35; with_reducible exact calls_ext (hg _))))
  refine wpQuiet_nil ?_
  rintro w' ⟨y, rfl⟩
  go_wp2
  go_ret
  exact ⟨rfl, Ext.via y⟩

/-- (reference).String -/
theorem rfString_any (d p t g : ByteArray) (w : World) (hs : d.size + p.size + t.size + g.size ≤ 100000) :
    Calls Try.prog 36 #[.agg #[.iface 44 (.agg #[.string d, .string p]), .string t, .string g]] w fun e w' => e = .returned (.string (nm d p ++ ⟨#[58]⟩ ++ t ++ ⟨#[64]⟩ ++ g)) ∧ ∃ x : Ext w, w' = x.now := by
  have hn := fun W => name_any d p W (by omega)
  have hm := meth_name d p
  have hz := nm_size d p
  have b1 : ¬ 9223372036854775807 < (nm d p).size + 1 := by omega
  have b2 : ¬ 9223372036854775807 < (nm d p).size + 1 + t.size := by omega
  have b3 : ¬ 9223372036854775807 < (nm d p).size + 1 + t.size + 1 := by omega
  have b4 : ¬ 9223372036854775807 < (nm d p).size + 1 + t.size + 1 + g.size := by omega
  have hg := fun W => digString_any g W
  go_enter Try.func36, Try.ntmps36
  go_wp2
  refine wp_region_ext (by kernel_rfl) (by kernel_rfl) ?_
  repeat (quiet_step (first
    | (go_at_call 32; with_reducible exact calls_ext (hn _))
    | (go_at_call 35; with_reducible exact calls_ext (hg _))))
  refine wpQuiet_nil ?_
  rintro w' ⟨y, rfl⟩
  go_wp2
  go_ret
  exact ⟨rfl, Ext.via y⟩

end Go.Proofs.Ytdnonoojhmkmjaa
