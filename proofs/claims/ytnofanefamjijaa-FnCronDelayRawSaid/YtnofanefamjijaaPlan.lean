/-
A region that draws its order, walked by a plan: its reads first, its other operations one behind the other, and a forced tail.
-/
import Derived.Test.YtnofanefamjijaaExt
import Derived.OrdersHeld
namespace Go.Proofs.Ytnofanefamjijaa
open Go Go.RowKit

section
variable {P : Program} {ops : Array Oper} {md : Region.Mode} {C : World → Prop} {Q : Exit → Act → World → Prop}

def wpAnyT (P : Program) (md : Region.Mode) (ops : Array Oper) (Q : Exit → Act → World → Prop) (C : World → Prop) (n : Nat) (L : Array Bool → Act → World → Prop) : Nat → Array Bool → Act → World → Prop
  | 0, listed, a, w => C w ∧ L listed a w
  | f + 1, listed, a, w =>
    C w ∧ Region.ready md ops listed ≠ [] ∧ ∀ i ∈ Region.ready md ops listed, i < n ∧ wpOp P ops Q i (wpAnyT P md ops Q C n L f (listed.setIfInBounds i true)) a w

theorem wpAny_of_headT {n g : Nat} {L : Array Bool → Act → World → Prop} (hL : ∀ listed a w, L listed a w → wpAny P md ops Q g listed a w) :
    ∀ (f : Nat) (listed : Array Bool) (a : Act) (w : World), wpAnyT P md ops Q C n L f listed a w → wpAny P md ops Q (f + g) listed a w
  | 0, listed, a, w, h => by rw [Nat.zero_add]; exact hL _ _ _ h.2
  | f + 1, listed, a, w, h => by
    rw [show f + 1 + g = (f + g) + 1 by omega]
    exact ⟨fun h0 => absurd h0 h.2.1, fun i hi => wpOp_mono (fun a' w' h' => wpAny_of_headT hL f _ a' w' h') (h.2.2 i hi).2⟩

theorem wpAnyT_first {n i : Nat} {oi : Oper} {v : Value} {L : Array Bool → Act → World → Prop} (hi : ops[i]? = some oi) (hsel : ∀ (j : Nat) (o : Oper) cs b, ops[j]? = some o → o.op ≠ .select cs b)
    (hQ : ∀ c a w, Q (.panic c) (a.put oi.dst v) w → Q (.panic c) a w)
    (hs : Region.sinkB md ops n = true) (hc : Region.chainB md ops n = true) (hn : n < ops.size) (hin : i < n)
    (hdone : ∀ listed a w, L listed a w → ∀ j ∈ Region.ready md ops listed, n ≤ j) :
    ∀ (f : Nat) (listed : Array Bool) (a : Act) (w : World), HeadInv md ops n listed →
      (∀ j oj, ops[j]? = some oj → j ≠ i → listed.getD j true = false → (∀ e ∈ oj.after, Region.binds md e = true → e.on ≠ i) → oi.apart ops oj = true) →
      i ∈ Region.ready md ops listed → YieldsIf P ops C oi v a → C w →
      wpAnyT P md ops Q C n L f (listed.setIfInBounds i true) (a.put oi.dst v) w → wpAnyT P md ops Q C n L (f + 1) listed a w := by
  intro f
  induction f with
  | zero =>
    intro listed a w inv _ hr hy hC H
    have hun := (mem_ready.1 hr).1
    refine ⟨hC, fun h => (by rw [h] at hr; cases hr), fun j hj => ?_⟩
    have hjn : j < n := by
      rcases Nat.lt_or_ge j n with h | h
      · exact h
      · exact absurd hj (tail_waits hs hc hn inv _ i rfl hin hun j h)
    refine ⟨hjn, ?_⟩
    by_cases hji : j = i
    · subst hji; exact hy.wpOp hi hC H
    · have := hdone _ _ _ H.2 j (ready_mono hj hji)
      omega
  | succ f ih =>
    intro listed a w inv hfree hr hy hC H
    have hun := (mem_ready.1 hr).1
    refine ⟨hC, fun h => (by rw [h] at hr; cases hr), fun j hj => ?_⟩
    have hjn : j < n := by
      rcases Nat.lt_or_ge j n with h | h
      · exact h
      · exact absurd hj (tail_waits hs hc hn inv _ i rfl hin hun j h)
    refine ⟨hjn, ?_⟩
    by_cases hji : j = i
    · subst hji; exact hy.wpOp hi hC H
    · have h1 := (H.2.2 j (ready_mono hj hji)).2
      obtain ⟨hjun, oj, hoj, hall⟩ := mem_ready.1 hj
      have hnot : ∀ e ∈ oj.after, Region.binds md e = true → e.on ≠ i := fun e he hb heq => by
        have h1 := hall e he hb
        rw [heq, getD_both hun] at h1
        cases h1
      have h2 := wpOp_putIf hoj (hfree j oj hoj hji hjun hnot) (fun cs b => hsel i oi cs b hi) (fun cs b => hsel j oj cs b hoj) hQ hy h1
      have hfree' : ∀ k ok, ops[k]? = some ok → k ≠ i → (listed.setIfInBounds j true).getD k true = false →
          (∀ e ∈ ok.after, Region.binds md e = true → e.on ≠ i) → oi.apart ops ok = true := fun k ok hk hki hun hno => by
        refine hfree k ok hk hki ?_ hno
        by_cases hjk : j = k
        · subst hjk; exact hjun
        · rw [getD_set_ne true hjk] at hun; exact hun
      refine wpOp_mono (fun a' w' h3 => ih (listed.setIfInBounds j true) a' w' (inv.set hj hjn) hfree' (ready_mono hr (Ne.symm hji)) h3.1 ?_ ?_) h2
      · cases f with
        | zero => exact h3.2.1
        | succ f => exact h3.2.1
      · rw [Array.setIfInBounds_comm _ _ hji]
        exact h3.2

/-- What is asked of a read: one value in every world of the class, and the very world. -/
def readUpon (w : World) (v : Value) : Result Next → Prop
  | .ok (.value u) w' => w' = w ∧ u = v
  | _ => False

def readAt (P : Program) (o : Oper) (a : Act) (w : World) (v : Value) : Prop := readUpon w v ((execOp a.eval o).run P w)

theorem readAt_run {o : Oper} {a : Act} {w : World} {v : Value} (h : readAt P o a w v) : (execOp a.eval o).run P w = .ok (.value v) w := by
  unfold readAt at h
  generalize (execOp a.eval o).run P w = r at *
  cases r with
  | ok x w' => cases x <;> simp only [readUpon] at h; rw [h.1, h.2]
  | halt x w' => simp only [readUpon] at h

/-- A plan: which operation is taken next, and whether it is a step (it may change the world) or a read. -/
def wpPlan (P : Program) (ops : Array Oper) (C : World → Prop) (Q : Exit → Act → World → Prop) (L : Act → World → Prop) : List (Nat × Bool) → Act → World → Prop
  | [], a, w => L a w
  | (i, false) :: r, a, w =>
    match ops[i]? with
    | none => False
    | some o => if Region.wanted o (yielded ops a.tmps) then ∃ v, (∀ w, C w → readAt P o a w v) ∧ wpPlan P ops C Q L r (a.put o.dst v) w else wpPlan P ops C Q L r (a.put o.dst undef) w
  | (i, true) :: r, a, w =>
    match ops[i]? with
    | none => False
    | some o => if Region.wanted o (yielded ops a.tmps) then o.wp P a w (fun a' w' => C w' ∧ wpPlan P ops C Q L r a' w') Q else wpPlan P ops C Q L r (a.put o.dst undef) w

theorem plan_read {L : Act → World → Prop} {i : Nat} {r : List (Nat × Bool)} {a : Act} {w : World} {o : Oper} (ho : ops[i]? = some o)
    (h : ∀ K : Act → Prop, (∀ a, wpPlan P ops C Q L r a w → K a) → if Region.wanted o (yielded ops a.tmps) then ∃ v, (∀ w, C w → readAt P o a w v) ∧ K (a.put o.dst v) else K (a.put o.dst undef)) :
    wpPlan P ops C Q L ((i, false) :: r) a w := by
  unfold wpPlan
  simp only [ho]
  exact h _ (fun _ h => h)

theorem plan_step {L : Act → World → Prop} {i : Nat} {r : List (Nat × Bool)} {a : Act} {w : World} {o : Oper} (ho : ops[i]? = some o)
    (h : ∀ K : Act → World → Prop, (∀ a w, C w → wpPlan P ops C Q L r a w → K a w) → if Region.wanted o (yielded ops a.tmps) then o.wp P a w K Q else C w ∧ wpPlan P ops C Q L r (a.put o.dst undef) w) :
    wpPlan P ops C Q L ((i, true) :: r) a w := by
  unfold wpPlan
  simp only [ho]
  have := h (fun a' w' => C w' ∧ wpPlan P ops C Q L r a' w') (fun _ _ h1 h2 => ⟨h1, h2⟩)
  split
  · rename_i hw; simpa [hw] using this
  · rename_i hw; simp only [hw] at this; exact this.2

theorem plan_nil {L : Act → World → Prop} {a : Act} {w : World} (h : L a w) : wpPlan P ops C Q L [] a w := h

/-- The plan fits the region. -/
def planB (md : Region.Mode) (ops : Array Oper) (n g : Nat) : List (Nat × Bool) → Array Bool → Bool
  | [], listed => Region.seqB md ops g n listed
  | (i, false) :: r, listed => decide (i < n) && (Region.ready md ops listed).contains i && Region.free md ops listed i && planB md ops n g r (listed.setIfInBounds i true)
  | (i, true) :: r, listed => decide (i < n) && decide (Region.ready md ops listed = [i]) && planB md ops n g r (listed.setIfInBounds i true)

def planOk (md : Region.Mode) (ops : Array Oper) (n : Nat) (plan : List (Nat × Bool)) : Bool :=
  Region.noSelect ops && decide (n < ops.size) && decide (plan.length = n) && Region.sinkB md ops n && Region.chainB md ops n && planB md ops n (ops.size - n) plan (Array.replicate ops.size false)

theorem wpAnyT_plan {n g : Nat} {L : Act → World → Prop} (hsel : Region.noSelect ops = true) (hQ : ∀ c a (d : Option Tmp) (v : Value) w, Q (.panic c) (a.put d v) w → Q (.panic c) a w)
    (hs : Region.sinkB md ops n = true) (hc : Region.chainB md ops n = true) (hn : n < ops.size) :
    ∀ (plan : List (Nat × Bool)) (listed : Array Bool) (a : Act) (w : World), HeadInv md ops n listed → planB md ops n g plan listed = true → C w → wpPlan P ops C Q L plan a w →
      wpAnyT P md ops Q C n (fun listed' a' w' => Region.seqB md ops g n listed' = true ∧ L a' w') plan.length listed a w
  | [], listed, a, w, _, hB, hC, h => ⟨hC, by simpa [planB] using hB, h⟩
  | (i, false) :: r, listed, a, w, inv, hB, hC, h => by
    simp only [planB, Bool.and_eq_true, decide_eq_true_eq] at hB
    obtain ⟨⟨⟨hin, hr⟩, hf⟩, hB'⟩ := hB
    have hr' : i ∈ Region.ready md ops listed := by simpa using hr
    unfold wpPlan at h
    cases hi : ops[i]? with
    | none => simp only [hi] at h
    | some o =>
      simp only [hi] at h
      have hex : ∃ v, YieldsIf P ops C o v a ∧ wpPlan P ops C Q L r (a.put o.dst v) w := by
        by_cases hw : Region.wanted o (yielded ops a.tmps) = true
        · simp only [hw, if_true] at h
          obtain ⟨v, h1, h2⟩ := h
          exact ⟨v, .inl ⟨hw, fun w' hw' => readAt_run (h1 w' hw')⟩, h2⟩
        · simp only [hw] at h
          exact ⟨undef, .inr ⟨by simpa using hw, rfl⟩, h⟩
      obtain ⟨v, hy, hK⟩ := hex
      exact wpAnyT_first hi (Region.noSelect_spec hsel) (fun c a w => hQ c a _ _ w) hs hc hn hin (fun listed' a' w' hL => seqB_ready hL.1) r.length listed a w inv (Region.free_spec hi hf) hr' hy hC
        (wpAnyT_plan hsel hQ hs hc hn r _ _ _ (inv.set hr' hin) hB' hC hK)
  | (i, true) :: r, listed, a, w, inv, hB, hC, h => by
    simp only [planB, Bool.and_eq_true, decide_eq_true_eq] at hB
    obtain ⟨⟨hin, hr⟩, hB'⟩ := hB
    have hr' : i ∈ Region.ready md ops listed := by rw [hr]; simp
    refine ⟨hC, fun h0 => (by rw [h0] at hr; cases hr), fun j hj => ?_⟩
    rw [hr] at hj
    have hji : j = i := by simpa using hj
    subst hji
    refine ⟨hin, ?_⟩
    unfold wpPlan at h
    unfold wpOp
    cases hi : ops[j]? with
    | none => simp only [hi] at h
    | some o =>
      simp only [hi] at h ⊢
      split
      · rename_i hw
        simp only [hw, if_true] at h
        refine .inl (Oper.wp_mono (fun a' w' h' => ?_) h)
        exact wpAnyT_plan hsel hQ hs hc hn r _ _ _ (inv.set hr' hin) hB' h'.1 h'.2
      · rename_i hw
        simp only [hw] at h
        exact wpAnyT_plan hsel hQ hs hc hn r _ _ _ (inv.set hr' hin) hB' hC h

/-- A region that draws its order, by a plan. -/
theorem wp_region_plan {id : Nat} {a : Act} {w : World} {l : List Oper} (n : Nat) (plan : List (Nat × Bool)) (C : World → Prop) (hm : P.follows .mixedOrders = true) (hB : planOk .any l.toArray n plan = true)
    (hQ : ∀ c a (d : Option Tmp) (v : Value) w, Q (.panic c) (a.put d v) w → Q (.panic c) a w) (hC : C w.drew)
    (h : wpPlan P l.toArray C Q (wpList P l.toArray Q (l.drop n)) plan a w.drew) : (Code.region id l.toArray true).wp P Q a w := by
  simp only [planOk, Bool.and_eq_true, decide_eq_true_eq] at hB
  obtain ⟨⟨⟨⟨⟨hsel, hn⟩, hlen⟩, hs⟩, hc⟩, hplan⟩ := hB
  have hdl : (l.drop n).length = l.toArray.size - n := by simp
  have inv0 : HeadInv .any l.toArray n (Array.replicate l.toArray.size false) :=
    ⟨by simp, fun j oj _ hl => (by rw [getD_replicate_false] at hl; cases hl), fun t _ ht => getD_in (by simpa using ht) (getD_replicate_false _ _)⟩
  have H := wpAnyT_plan (md := .any) (g := l.toArray.size - n) hsel hQ hs hc hn plan _ a w.drew inv0 hplan hC h
  refine wp_region_any hm ?_
  have := wpAny_of_headT (Q := Q) (g := l.toArray.size - n) (fun listed a' w' hL => by
    have := wpAny_of_seq (md := .any) (Q' := Q) (l.drop n) n listed a' w' (fun j => by simp [List.getElem?_drop]) (by rw [hdl]; exact hL.1) hL.2
    rwa [hdl] at this) _ _ _ _ H
  have hn' : n < l.length := by simpa using hn
  rw [hlen, show n + (l.toArray.size - n) = l.toArray.size by simp; omega] at this
  exact this

end
attribute [go_sem] readAt readUpon
end Go.Proofs.Ytnofanefamjijaa
