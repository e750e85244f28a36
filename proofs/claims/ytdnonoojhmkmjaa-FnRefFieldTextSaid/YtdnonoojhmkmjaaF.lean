/-
For every reference the statement on a field's text returns true: the text of a field of a reference of any parts that tells something is the reference's text. No condition.
-/
import Derived.Test.YtdnonoojhmkmjaaRows
import Derived.Test.YtdnonoojhmkmjaaE
import Derived.ProofKit
import Derived.OpenShut
import Derived.Lib.SmallJoins
namespace Go.Proofs.Ytdnonoojhmkmjaa
open Go.ChangeShapes Go.WideShapes Go.ChangeAt Go.RowKit Go.Joins

theorem Try.own : ownKnob Try.prog.godebug = none := by kernel_rfl
theorem Try.laidOut : laidOutB Try.prog = true := by kernel_rfl
theorem Try.cells23 : Try.prog.cellsOf 23 = 4 := by kernel_rfl

theorem law_any (d p t g : ByteArray) (w : World) :
    Calls Try.prog 3 #[rv d p t g] w fun e w' => e = .returned (.bool true) ∧ ∃ x : Ext w, w' = x.now := by
  cases hf : fitsB d p t g with
  | false => exact law_unfit d p t g w hf
  | true =>
    cases hs : shortB d p t g with
    | false => exact law_long d p t g w hf hs
    | true =>
      by_cases hn : tellsN p t g = 0
      · exact law_mute d p t g w hf hs hn
      · exact law_told d p t g w _ hf hs rfl (by simpa using hn)

set_option maxRecDepth 100000 in
theorem field_lifted (os : Os) (started : os.Started) (H : Type) (enc : TypeId × Value → H) :
    ReturnsInHanded {} Try.checked os 3 .any (Rows.fnRefFieldTextSpec.pre6 enc Try.prog Try.f3 Rows.fnRefFieldTextRow.domain false) (Rows.fnRefFieldTextSpec.post enc Try.prog Try.f3 false true false false) := by
  refine returnsInHanded_of_change (C := Try.checked) Try.own started (by kernel_rfl) Try.func3
    (ChangeSpec.witness6 (enc := enc) (C := Try.checked) false ⟨#[], #[.agg #[.string ⟨#[]⟩, .string ⟨#[]⟩, .string ⟨#[]⟩, .string ⟨#[]⟩]], []⟩ 8 (by kernel_rfl) (by kernel_rfl) (by kernel_rfl) (by kernel_rfl)) ?_
  intro W base args ds gs before hval0 hW hcnd _
  have hval : ∀ (j : Nat) t v, Try.f3.params[j]? = some t → args[j]? = some v → Value.okWide Try.prog W .any base t v := hval0
  have hW' := hW
  obtain ⟨p, q, hA0, hV, rfl, hfz, hnd⟩ := hW
  have hA : DataW.TrodAll enc Try.prog W 0 (fun _ => true) true Try.f3.params.toList args.toList ds p := hA0
  rw [Try.params3] at hA hval
  obtain ⟨v0, d0, rfl, rfl, h0⟩ := trodAll_one hA
  obtain ⟨rfl, rfl⟩ := trodVars_none hV
  obtain ⟨c0, c1, c2, c3, y0, y1, y2, y3, m, rfl, rfl, rfl, hy0, hy1, hy2, hy3⟩ := open_agg4 Try.underlying23 (by kernel_rfl) Try.cells23 (hval 0 23 v0 rfl rfl) h0
  obtain ⟨a, e0, rfl, wa⟩ := DataW.trod_string Try.underlying9 hy0
  obtain ⟨b, e1, rfl, wb⟩ := DataW.trod_string Try.underlying9 hy1
  obtain ⟨c, e2, rfl, wc⟩ := DataW.trod_string Try.underlying9 hy2
  obtain ⟨d, e3, rfl, wd⟩ := DataW.trod_string Try.underlying9 hy3
  simp at e0 e1 e2 e3
  subst e0 e1 e2 e3
  clear hA0 hval0
  simp only [List.append_nil] at hW'
  refine (law_any a b c d W).mono fun e W' ⟨he, hw⟩ => ?_
  obtain ⟨x, rfl⟩ := hw
  subst he
  have structReads : ∀ (W' : World) (sp : Nat → Bool), DataW.Trod enc Try.prog W' 0 sp true 23 (rv a b c d) (.agg [.lit (.string a.data.toList), .lit (.string b.data.toList), .lit (.string c.data.toList), .lit (.string d.data.toList)]) [] := fun W' sp =>
    shut_agg4 (y0 := (.lit (.string a.data.toList), [])) (y1 := (.lit (.string b.data.toList), [])) (y2 := (.lit (.string c.data.toList), [])) (y3 := (.lit (.string d.data.toList), [])) Try.underlying23 (by kernel_rfl) Try.cells23
      ⟨1, by simp [DataW.trod, Try.underlying9, wa]⟩ ⟨1, by simp [DataW.trod, Try.underlying9, wb]⟩ ⟨1, by simp [DataW.trod, Try.underlying9, wc]⟩ ⟨1, by simp [DataW.trod, Try.underlying9, wd]⟩
  exact ⟨_, rfl, _, _, _, [], [], [], hW', trodAll_mk1 (shut_bool Try.underlying4 _), trodAll_mk1 (structReads _ _), rfl, x.below.frame _, fun h => by cases h⟩

theorem field_holds : Rows.FnRefFieldTextSaid :=
  OpenClaim.holds_of_wide 3 Try.f3 rfl rfl rfl rfl rfl rfl rfl ⟨rfl, rfl, rfl, rfl, rfl⟩ rfl rfl rfl rfl rfl (by kernel_rfl) Try.func3 (by kernel_rfl)
    (of_decide_eq_true (by kernel_rfl)) (by unfold Func.isWrapper; rw [if_neg (of_decide_eq_false (by kernel_rfl))]; exact ⟨rfl, rfl⟩)
    (fun os started H enc _ => field_lifted os started H enc)

#print axioms field_holds
end Go.Proofs.Ytdnonoojhmkmjaa
