/-
For every delay and every instant the statement on constant delays returns true: a delay that is no whole number of seconds leaves its rest in the nanoseconds of the activation. No condition.
-/
import Derived.Test.YtnofanefamjijaaRows
import Derived.Test.YtnofanefamjijaaF
import Derived.ProofKit
import Derived.OpenShut
import Derived.Lib.SmallJoins
namespace Go.Proofs.Ytnofanefamjijaa
open Go.ChangeShapes Go.WideShapes Go.ChangeAt Go.RowKit Go.Joins

theorem Try.own : ownKnob Try.prog.godebug = none := by kernel_rfl
theorem Try.laidOut : laidOutB Try.prog = true := by kernel_rfl
theorem Try.cells23 : Try.prog.cellsOf 23 = 2 := by kernel_rfl

theorem law_any (d s n : Int) (w : World) (d0 : -9223372036854775808 ≤ d) (d1 : d ≤ 9223372036854775807) :
    Calls Try.prog 3 #[.int .i64 d, .agg #[.int .i64 s, .int .i64 n]] w fun e w' => e = .returned (.bool true) ∧ ∃ x : Ext w, w' = x.now := by
  cases hg : goodB s n with
  | false => exact law_bad d s n w hg d0 d1
  | true =>
    rcases Int.lt_or_le d 0 with h | h
    · exact law_neg d s n w hg h d0
    · have e1 := Int.tdiv_eq_ediv_of_nonneg (b := 1000000000) h
      have e2 := Int.tmod_eq_emod_of_nonneg (b := 1000000000) h
      by_cases h1 : s + d / 1000000000 = -62135596800
      · by_cases h2 : d % 1000000000 = 0
        · exact law_first d s n _ _ w hg h d1 e1 e2 rfl rfl h1 h2
        · exact law_rest d s n _ _ w hg h d1 e1 e2 rfl rfl h1 h2
      · exact law_other d s n _ _ w hg h d1 e1 e2 rfl rfl h1

set_option maxRecDepth 100000 in
theorem raw_lifted (os : Os) (started : os.Started) (H : Type) (enc : TypeId × Value → H) :
    ReturnsInHanded {} Try.checked os 3 .any (Rows.fnCronDelayRawSpec.pre6 enc Try.prog Try.f3 Rows.fnCronDelayRawRow.domain false) (Rows.fnCronDelayRawSpec.post enc Try.prog Try.f3 false true false false) := by
  refine returnsInHanded_of_change (C := Try.checked) Try.own started (by kernel_rfl) Try.func3
    (ChangeSpec.witness6 (enc := enc) (C := Try.checked) false ⟨#[], #[.int .i64 0, .agg #[.int .i64 0, .int .i64 0]], []⟩ 8 (by kernel_rfl) (by kernel_rfl) (by kernel_rfl) (by kernel_rfl)) ?_
  intro W base args ds gs before hval0 hW hcnd _
  have hval : ∀ (j : Nat) t v, Try.f3.params[j]? = some t → args[j]? = some v → Value.okWide Try.prog W .any base t v := hval0
  have hW' := hW
  obtain ⟨p, q, hA0, hV, rfl, hfz, hnd⟩ := hW
  have hA : DataW.TrodAll enc Try.prog W 0 (fun _ => true) true Try.f3.params.toList args.toList ds p := hA0
  rw [Try.params3] at hA hval
  obtain ⟨v0, v1, d0, d1, p0, p1, rfl, rfl, rfl, h0, h1⟩ := trodAll_two hA
  obtain ⟨rfl, rfl⟩ := trodVars_none hV
  obtain ⟨a, rfl, rfl, rfl, wa⟩ := open_int Try.underlying2 (hval 0 2 v0 rfl rfl) h0
  obtain ⟨c0, c1, y0, y1, m, rfl, rfl, rfl, hy0, hy1⟩ := open_agg2 Try.underlying23 (by kernel_rfl) Try.cells23 (hval 1 23 v1 rfl rfl) h1
  obtain ⟨b, e0, rfl, wb⟩ := DataW.trod_int Try.underlying2 hy0
  obtain ⟨c, e1, rfl, wc⟩ := DataW.trod_int Try.underlying3 hy1
  simp at e0 e1
  subst e0 e1
  clear hA0 hval0
  simp only [List.append_nil] at hW'
  have hb := bounds_i64 wa
  refine (law_any a b c W hb.1 hb.2).mono fun e W' ⟨he, hw⟩ => ?_
  obtain ⟨x, rfl⟩ := hw
  subst he
  have structReads : ∀ (W' : World) (sp : Nat → Bool), DataW.Trod enc Try.prog W' 0 sp true 23 (.agg #[.int .i64 b, .int .i64 c]) (.agg [.lit (.int .i64 b), .lit (.int .i64 c)]) [] := fun W' sp =>
    shut_agg2 (y0 := (.lit (.int .i64 b), [])) (y1 := (.lit (.int .i64 c), [])) Try.underlying23 (by kernel_rfl) Try.cells23 ⟨1, by simp [DataW.trod, Try.underlying2, wb]⟩ ⟨1, by simp [DataW.trod, Try.underlying3, wc]⟩
  exact ⟨_, rfl, _, _, _, [], [], [], hW', trodAll_mk1 (shut_bool Try.underlying4 _), trodAll_mk2 (shut_int Try.underlying2 wa) (structReads _ _), rfl, x.below.frame _, fun h => by cases h⟩

theorem raw_holds : Rows.FnCronDelayRawSaid :=
  OpenClaim.holds_of_wide 3 Try.f3 rfl rfl rfl rfl rfl rfl rfl ⟨rfl, rfl, rfl, rfl, rfl⟩ rfl rfl rfl rfl rfl (by kernel_rfl) Try.func3 (by kernel_rfl)
    (of_decide_eq_true (by kernel_rfl)) (by unfold Func.isWrapper; rw [if_neg (of_decide_eq_false (by kernel_rfl))]; exact ⟨rfl, rfl⟩)
    (fun os started H enc _ => raw_lifted os started H enc)

#print axioms raw_holds

end Go.Proofs.Ytnofanefamjijaa
