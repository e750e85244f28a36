/-
The walks from the parts of a reference to its best kind, and of the field's text.
-/
import Derived.Test.YtdnonoojhmkmjaaA
import Derived.Lib.ConvBytes
namespace Go.Proofs.Ytdnonoojhmkmjaa
open Go.RowKit
attribute [local go_sem] Ext.cell Ext.frozen Ext.lt Ext.lt_add Ext.cell2 Ext.frozen2

/-- The reference of four parts as an interface value. -/
def refV (d p t g : ByteArray) : Value :=
  if p.toList.isEmpty = true then .iface 50 (.string g)
  else if t.toList.isEmpty = true then
    if g.toList.isEmpty = true then .iface 44 (.agg #[.string d, .string p]) else .iface 52 (.agg #[.iface 44 (.agg #[.string d, .string p]), .string g])
  else if g.toList.isEmpty = true then .iface 54 (.agg #[.iface 44 (.agg #[.string d, .string p]), .string t])
  else .iface 49 (.agg #[.iface 44 (.agg #[.string d, .string p]), .string t, .string g])

theorem nm_empty (d p : ByteArray) : (nm d p).toList.isEmpty = (d.toList.isEmpty && p.toList.isEmpty) := by
  unfold nm
  cases hd : d.toList.isEmpty with
  | true => simp
  | false =>
    rw [ByteArray.toList_eq] at hd
    simp only [Bool.false_eq_true, if_false, Bool.false_and, ByteArray.toList_eq, ByteArray.data_append, Array.toList_append]
    cases h : d.data.toList with
    | nil => rw [h] at hd; cases hd
    | cons a l => rfl

theorem best_any (d p t g : ByteArray) (w : World) (hs : d.size + p.size ≤ 100000) (hp : p.toList.isEmpty = true → d.toList.isEmpty = true) (hg : p.toList.isEmpty = true → g.toList.isEmpty = false) :
    Calls Try.prog 14 #[.agg #[.iface 44 (.agg #[.string d, .string p]), .string t, .string g]] w fun e w' => e = .returned (refV d p t g) ∧ ∃ x : Ext w, w' = x.now := by
  have hn := fun W => name_any d p W (by omega)
  have hm := meth_name d p
  unfold refV
  by_cases h1 : p.toList.isEmpty = true
  · have hN : (nm d p).toList.isEmpty = true := by rw [nm_empty, hp h1, h1]; rfl
    have hG := hg h1
    rw [if_pos h1]
    clear hp hg h1
    go_enter Try.func14, Try.ntmps14
    go_wp2_with (go_at_call 32; (with_reducible refine (hn _).mono ?_); rintro e w' ⟨rfl, x, rfl⟩)
    go_ret
    exact ⟨rfl, Ext.via x⟩
  · have h1' : p.toList.isEmpty = false := by simpa using h1
    have hN : (nm d p).toList.isEmpty = false := by rw [nm_empty, h1', Bool.and_false]
    rw [if_neg h1]
    clear hp hg h1 h1'
    by_cases h2 : t.toList.isEmpty = true
    · rw [if_pos h2]
      by_cases h3 : g.toList.isEmpty = true
      · rw [if_pos h3]
        go_enter Try.func14, Try.ntmps14
        go_wp2_with (go_at_call 32; (with_reducible refine (hn _).mono ?_); rintro e w' ⟨rfl, x, rfl⟩)
        go_ret
        exact ⟨rfl, Ext.via x⟩
      · rw [if_neg h3]
        have h3' : g.toList.isEmpty = false := by simpa using h3
        clear h3
        go_enter Try.func14, Try.ntmps14
        go_wp2_with (go_at_call 32; (with_reducible refine (hn _).mono ?_); rintro e w' ⟨rfl, x, rfl⟩)
        go_ret
        exact ⟨rfl, Ext.via x⟩
    · rw [if_neg h2]
      have h2' : t.toList.isEmpty = false := by simpa using h2
      clear h2
      by_cases h3 : g.toList.isEmpty = true
      · rw [if_pos h3]
        go_enter Try.func14, Try.ntmps14
        go_wp2_with (go_at_call 32; (with_reducible refine (hn _).mono ?_); rintro e w' ⟨rfl, x, rfl⟩)
        go_ret
        exact ⟨rfl, Ext.via x⟩
      · rw [if_neg h3]
        have h3' : g.toList.isEmpty = false := by simpa using h3
        clear h3
        go_enter Try.func14, Try.ntmps14
        go_wp2_with (go_at_call 32; (with_reducible refine (hn _).mono ?_); rintro e w' ⟨rfl, x, rfl⟩)
        go_ret
        exact ⟨rfl, Ext.via x⟩


theorem ref_any (d p t g : ByteArray) (w : World) (hs : d.size + p.size ≤ 100000) (hp : p.toList.isEmpty = true → d.toList.isEmpty = true) (hg : p.toList.isEmpty = true → g.toList.isEmpty = false) :
    Calls Try.prog 9 #[.agg #[.string d, .string p, .string t, .string g]] w fun e w' => e = .returned (refV d p t g) ∧ ∃ x : Ext w, w' = x.now := by
  have hb := fun W => best_any d p t g W hs hp hg
  clear hp hg
  have hz : ∀ W, Calls Try.prog 13 #[.string d, .string p, .string t, .string g] W fun e w' => e = .returned (refV d p t g) ∧ ∃ x : Ext W, w' = x.now := by
    intro W
    go_enter Try.func13, Try.ntmps13
    go_wp2_with (go_at_call 14; (with_reducible refine (hb _).mono ?_); rintro e w' ⟨rfl, x, rfl⟩)
    go_ret
    exact ⟨rfl, x, rfl⟩
  clear hb
  go_enter Try.func9, Try.ntmps9
  go_wp2_with (go_at_call 13; (with_reducible refine (hz _).mono ?_); rintro e w' ⟨rfl, x, rfl⟩)
  go_ret
  exact ⟨rfl, Ext.via x⟩

theorem asField_any (v : Value) (w : World) (T : Nat) (u : Value) (hv : v = .iface T u) :
    Calls Try.prog 10 #[v] w fun e w' => e = .returned (.agg #[v]) ∧ ∃ x : Ext w, w' = x.now := by
  subst hv
  go_enter Try.func10, Try.ntmps10
  go_wp2
  exact bodyPost_ret (v := .agg #[.iface T u]) (by simp [results, Try.results10, go_sem]) rfl ⟨rfl, Ext.alloc1 _ _⟩

/-- The bytes of a string in a row. -/
def BytesAt (w : World) (b : Nat) (s : ByteArray) : Prop := b < w.heap.size ∧ ∀ j (hj : j < s.data.toList.length), w.cell? ⟨b, j, none⟩ = some (.int .u8 (s.data.toList[j].toNat : Int))

theorem BytesAt.ext {w : World} {b : Nat} {s : ByteArray} (h : BytesAt w b s) (x : Ext w) : BytesAt x.now b s :=
  ⟨x.lt b h.1, fun j hj => by rw [x.cell b j h.1]; exact h.2 j hj⟩

theorem bytes_ext (w : World) (e : TypeId) (s : ByteArray) : ∃ x : Ext w, Lib.bytesWorld w e s = x.now :=
  Ext.of ⟨by simp [Lib.bytesWorld, World.freeze, World.alloc, World.drew, -World.alloc_eq, -World.drew_eq], by simp [Lib.bytesWorld, World.freeze, World.alloc, World.drew, -World.alloc_eq, -World.drew_eq],
    by simp [Lib.bytesWorld, World.freeze, World.alloc, World.drew, -World.alloc_eq, -World.drew_eq], by rw [Lib.bytesWorld_size]; omega, fun k hk => Lib.bytesWorld_at_old w e s k hk⟩

def Marsh (w : World) (s : ByteArray) (e : Ending) (w' : World) : Prop :=
  ∃ b cap, e = .returned (.tuple #[.slice (some ⟨b, 0, none⟩) s.size cap, .nilIface]) ∧ BytesAt w' b s ∧ ∃ x : Ext w, w' = x.now

theorem marshal_any (T F : Nat) (u : Value) (s : ByteArray) (w : World) (hm : ∀ W, (method 172 T u "String").run Try.prog W = .ok (F, u) W)
    (hc : ∀ W, (callFunc F #[u]).run Try.prog W = .ok (.enter F #[u]) W)
    (hS : ∀ W, Calls Try.prog F #[u] W fun e w' => e = .returned (.string s) ∧ ∃ x : Ext W, w' = x.now) :
    Calls Try.prog 11 #[.agg #[.iface T u]] w (Marsh w s) := by
  have hconv := fun W => Lib.run_convert_string_bytes (P := Try.prog) W 9 26 5 s Try.underlying9 Try.underlying26 Try.underlying5
  go_enter Try.func11, Try.ntmps11
  go_wp2_with fail
  refine (hS _).mono ?_
  rintro e w' ⟨rfl, x, rfl⟩
  go_wp2
  go_ret2
  refine ⟨_, _, rfl, ⟨by rw [Lib.bytesWorld_size]; omega, fun j hj => ?_⟩, ?_⟩
  · rw [Lib.bytesWorld_cell _ _ _ _ (by simpa using hj)]
    rw [List.getD_eq_getElem?_getD, List.getElem?_eq_getElem hj]; rfl
  · exact (Ext.via x).elim fun y hy => by rw [hy]; exact (bytes_ext y.now 5 s).elim fun z hz => ⟨y.trans z, hz⟩


def Told (w : World) (s : ByteArray) (e : Ending) (w' : World) : Prop :=
  ∃ b cap, e = .returned (.tuple #[.slice (some ⟨b, 0, none⟩) s.size cap, .bool true]) ∧ BytesAt w' b s ∧ ∃ x : Ext w, w' = x.now

theorem fieldText_of (d p t g : ByteArray) (w : World) (T F : Nat) (u : Value) (s : ByteArray) (hr : ∀ W, Calls Try.prog 9 #[.agg #[.string d, .string p, .string t, .string g]] W fun e w' => e = .returned (.iface T u) ∧ ∃ x : Ext W, w' = x.now)
    (hM : ∀ W, Calls Try.prog 11 #[.agg #[.iface T u]] W (Marsh W s)) :
    Calls Try.prog 7 #[.agg #[.string d, .string p, .string t, .string g]] w (Told w s) := by
  have hf := fun W => asField_any (.iface T u) W T u rfl
  go_enter Try.func7, Try.ntmps7
  go_wp2_with (first
    | (go_at_call 9; (with_reducible refine (hr _).mono ?_); rintro e w' ⟨rfl, x, rfl⟩)
    | (go_at_call 10; (with_reducible refine (hf _).mono ?_); rintro e w' ⟨rfl, y, rfl⟩)
    | (go_at_call 11; (with_reducible refine (hM _).mono ?_); rintro e w' ⟨b, cap, rfl, hb, z, rfl⟩))
  refine wp_region_ext (by kernel_rfl) (by kernel_rfl) ?_
  repeat (quiet_step (fail))
  refine wpQuiet_nil ?_
  rintro w' ⟨u2, rfl⟩
  go_wp2
  go_ret2
  refine ⟨b, cap, rfl, hb.ext u2, ?_⟩
  exact (Ext.via (((x.trans y).trans z).trans u2)).elim fun a ha => ⟨a, ha⟩

end Go.Proofs.Ytdnonoojhmkmjaa
