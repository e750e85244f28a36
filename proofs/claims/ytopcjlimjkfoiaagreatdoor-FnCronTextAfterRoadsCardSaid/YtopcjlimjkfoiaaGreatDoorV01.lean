/-
FnCronTextAfterRoads: the calendar, the schedules, their texts and the zones, part 1 of 34.
-/
import Derived.StillTail
import Derived.Deep.QuietTactic
import Derived.Below
import Derived.WalkKit
import Derived.KernelRfl
import Derived.Test.YtopcjlimjkfoiaaGreatDoorProg
import Derived.Laws.BitsLemmas
import Derived.RowKit3
import Derived.BigQuiet
import Derived.Deep.RegionWith
import Derived.Deep.RegionHeld3
import Derived.Outline
import Derived.OwnWalk
import Derived.IntWalk
set_option linter.all false
namespace Go.Proofs.YtopcjlimjkfoiaaGreatDoor
open Go Go.RowKit

structure Ext (w : World) where
  now : World
  below : Below w.heap.size w now

theorem Ext.cell {w : World} (x : Ext w) (b o : Nat) (h : b < w.heap.size) : x.now.cell? ⟨b, o, none⟩ = w.cell? ⟨b, o, none⟩ := x.below.cell (p := ⟨b, o, none⟩) h
theorem Ext.frozen {w : World} (x : Ext w) (b o : Nat) (h : b < w.heap.size) : x.now.frozen? ⟨b, o, none⟩ = w.frozen? ⟨b, o, none⟩ := x.below.frozen (p := ⟨b, o, none⟩) h
theorem Ext.lt {w : World} (x : Ext w) (b : Nat) (h : b < w.heap.size) : b < x.now.heap.size := Nat.lt_of_lt_of_le h x.below.size
theorem Ext.le {w : World} (x : Ext w) : w.heap.size ≤ x.now.heap.size := x.below.size
theorem Ext.block {w : World} (x : Ext w) (b : Nat) (h : b < w.heap.size) : x.now.heap[b]? = w.heap[b]? := x.below.block b h

def Ext.refl (w : World) : Ext w := ⟨w, Below.refl _ _⟩
def Ext.drewn (w : World) : Ext w := ⟨w.drew, (Below.refl _ _).drew⟩
def Ext.trans {w : World} (x : Ext w) (y : Ext x.now) : Ext w := ⟨y.now, x.below.trans (y.below.mono x.below.size)⟩

theorem Ext.lt_add {w : World} (x : Ext w) (b k : Nat) (h : b < w.heap.size) : b < x.now.heap.size + k := Nat.lt_of_lt_of_le (x.lt b h) (Nat.le_add_right _ _)
theorem Ext.cell2 {w : World} (x : Ext w) (y : Ext x.now) (b o : Nat) (h : b < w.heap.size) : y.now.cell? ⟨b, o, none⟩ = w.cell? ⟨b, o, none⟩ := (x.trans y).cell b o h
theorem Ext.frozen2 {w : World} (x : Ext w) (y : Ext x.now) (b o : Nat) (h : b < w.heap.size) : y.now.frozen? ⟨b, o, none⟩ = w.frozen? ⟨b, o, none⟩ := (x.trans y).frozen b o h
instance Ext.nonempty (w : World) : Nonempty (Ext w) := ⟨Ext.refl w⟩

def Ext.one (w : World) (o : Obj) : Ext w := ⟨w.alloc o, (Below.refl _ _).alloc (Nat.le_refl _) _⟩
theorem Ext.here (w : World) : ∃ y : Ext w, w = y.now := ⟨Ext.refl w, rfl⟩
theorem Ext.alloc1 (w : World) (o : Obj) : ∃ y : Ext w, w.alloc o = y.now := ⟨Ext.one w o, rfl⟩
theorem Ext.alloc2 (w : World) (o o2 : Obj) : ∃ y : Ext w, (w.alloc o).alloc o2 = y.now := ⟨(Ext.one w o).trans (Ext.one _ o2), rfl⟩
theorem Ext.via {w : World} {o : Obj} (x : Ext (w.alloc o)) : ∃ y : Ext w, x.now = y.now := ⟨(Ext.one w o).trans x, rfl⟩
theorem Ext.via2 {w : World} {o o2 : Obj} (x : Ext ((w.alloc o).alloc o2)) : ∃ y : Ext w, x.now = y.now := ⟨((Ext.one w o).trans (Ext.one _ o2)).trans x, rfl⟩
theorem Ext.both {w : World} (x : Ext w) (y : Ext x.now) : ∃ z : Ext w, y.now = z.now := ⟨x.trans y, rfl⟩
theorem Ext.viab {w : World} {o : Obj} (x : Ext (w.alloc o)) (y : Ext x.now) : ∃ z : Ext w, y.now = z.now := ⟨((Ext.one w o).trans x).trans y, rfl⟩

theorem Ext.of {w w' : World} (h : Below w.heap.size w w') : ∃ x : Ext w, w' = x.now := ⟨⟨w', h⟩, rfl⟩

section
variable {P : Program} {ops : Array Oper} {md : Region.Mode} {C : World → Prop}

def wpAnyLQ (P : Program) (md : Region.Mode) (ops : Array Oper) (C : World → Prop) (n : Nat) (L : Array Bool → Act → Prop) : Nat → Array Bool → Act → Prop
  | 0, listed, a => L listed a
  | f + 1, listed, a =>
    Region.ready md ops listed ≠ [] ∧ ∀ i ∈ Region.ready md ops listed, i < n ∧ qOp P ops C i (wpAnyLQ P md ops C n L f (listed.setIfInBounds i true)) a

theorem wpAny_of_headQ {n g : Nat} {L : Array Bool → Act → Prop} {Q' : Exit → Act → World → Prop} (hL : ∀ listed a w, C w → L listed a → wpAny P md ops Q' g listed a w) :
    ∀ (f : Nat) (listed : Array Bool) (a : Act) (w : World), C w → wpAnyLQ P md ops C n L f listed a → wpAny P md ops Q' (f + g) listed a w
  | 0, listed, a, w, hw, h => by rw [Nat.zero_add]; exact hL _ _ _ hw h
  | f + 1, listed, a, w, hw, h => by
    rw [show f + 1 + g = (f + g) + 1 by omega]
    exact ⟨fun h0 => absurd h0 h.1, fun i hi => wpOp_of_qOp hw (fun a' w' hw' h' => wpAny_of_headQ hL f _ a' w' hw' h') (h.2 i hi).2⟩

theorem wpAnyLQ_first {n i : Nat} {oi : Oper} {v : Value} {L : Array Bool → Act → Prop} (hi : ops[i]? = some oi) (hsel : ∀ (j : Nat) (o : Oper) cs b, ops[j]? = some o → o.op ≠ .select cs b)
    (hs : Region.sinkB md ops n = true) (hc : Region.chainB md ops n = true) (hn : n < ops.size) (hin : i < n)
    (hdone : ∀ listed a, L listed a → ∀ j ∈ Region.ready md ops listed, n ≤ j) :
    ∀ (f : Nat) (listed : Array Bool) (a : Act), HeadInv md ops n listed →
      (∀ j oj, ops[j]? = some oj → j ≠ i → listed.getD j true = false → (∀ e ∈ oj.after, Region.binds md e = true → e.on ≠ i) → oi.apart ops oj = true) →
      i ∈ Region.ready md ops listed → YieldsIn P ops C oi v a →
      wpAnyLQ P md ops C n L f (listed.setIfInBounds i true) (a.put oi.dst v) → wpAnyLQ P md ops C n L (f + 1) listed a := by
  intro f
  induction f with
  | zero =>
    intro listed a inv _ hr hy H
    have hun := (mem_ready.1 hr).1
    refine ⟨fun h => (by rw [h] at hr; cases hr), fun j hj => ?_⟩
    have hjn : j < n := by
      rcases Nat.lt_or_ge j n with h | h
      · exact h
      · exact absurd hj (tail_waits hs hc hn inv _ i rfl hin hun j h)
    refine ⟨hjn, ?_⟩
    by_cases hji : j = i
    · subst hji; exact hy.qOp hi H
    · have := hdone _ _ H j (ready_mono hj hji)
      omega
  | succ f ih =>
    intro listed a inv hfree hr hy H
    have hun := (mem_ready.1 hr).1
    refine ⟨fun h => (by rw [h] at hr; cases hr), fun j hj => ?_⟩
    have hjn : j < n := by
      rcases Nat.lt_or_ge j n with h | h
      · exact h
      · exact absurd hj (tail_waits hs hc hn inv _ i rfl hin hun j h)
    refine ⟨hjn, ?_⟩
    by_cases hji : j = i
    · subst hji; exact hy.qOp hi H
    · have h1 := (H.2 j (ready_mono hj hji)).2
      obtain ⟨hjun, oj, hoj, hall⟩ := mem_ready.1 hj
      have hnot : ∀ e ∈ oj.after, Region.binds md e = true → e.on ≠ i := fun e he hb heq => by
        have h1 := hall e he hb
        rw [heq, getD_both hun] at h1
        cases h1
      have h2 := qOp_put hoj (hfree j oj hoj hji hjun hnot) (fun cs b => hsel i oi cs b hi) (fun cs b => hsel j oj cs b hoj) hy h1
      have hfree' : ∀ k ok, ops[k]? = some ok → k ≠ i → (listed.setIfInBounds j true).getD k true = false →
          (∀ e ∈ ok.after, Region.binds md e = true → e.on ≠ i) → oi.apart ops ok = true := fun k ok hk hki hun hno => by
        refine hfree k ok hk hki ?_ hno
        by_cases hjk : j = k
        · subst hjk; exact hjun
        · rw [getD_set_ne true hjk] at hun; exact hun
      refine qOp_mono (fun a' h3 => ih (listed.setIfInBounds j true) a' (inv.set hj hjn) hfree' (ready_mono hr (Ne.symm hji)) h3.1 ?_) h2
      rw [Array.setIfInBounds_comm _ _ hji]
      exact h3.2

theorem wpAnyLQ_lex {n g : Nat} {Lq : Act → Prop} (hsel : Region.noSelect ops = true) (hs : Region.sinkB md ops n = true) (hc : Region.chainB md ops n = true) (hn : n < ops.size) :
    ∀ (l : List Oper) (k : Nat) (listed : Array Bool) (a : Act), (∀ j, j < l.length → l[j]? = ops[k + j]?) → k + l.length = n → HeadInv md ops n listed →
    Region.lexHead md ops g l.length k listed = true → wpQuiet P ops C Lq l a →
    wpAnyLQ P md ops C n (fun listed' a' => Region.seqB md ops g n listed' = true ∧ Lq a') l.length listed a
  | [], k, listed, a, _, hk, _, hB, h => by
    have : k = n := by simpa using hk
    subst this
    exact ⟨by simpa [Region.lexHead] using hB, h⟩
  | o :: l, k, listed, a, hl, hk, inv, hB, h => by
    have h0 : ops[k]? = some o := by simpa using (hl 0 (by simp)).symm
    simp only [List.length_cons, Region.lexHead, Bool.and_eq_true] at hB
    obtain ⟨⟨hr, hf⟩, hB'⟩ := hB
    have hkn : k < n := by simp only [List.length_cons] at hk; omega
    have hr' : k ∈ Region.ready md ops listed := by simpa using hr
    have hst : qOp P ops C k (wpQuiet P ops C Lq l) a := by unfold qOp; simp only [h0]; exact h
    obtain ⟨v, hy, hK⟩ := yieldsIn_of_qOp h0 hst
    exact wpAnyLQ_first h0 (Region.noSelect_spec hsel) hs hc hn hkn (fun listed' a' hL => seqB_ready hL.1) l.length listed a inv (Region.free_spec h0 hf) hr' hy
      (wpAnyLQ_lex hsel hs hc hn l (k + 1) _ _ (fun j hj => by have := hl (j + 1) (by simp; omega); simpa [Nat.add_assoc, Nat.add_comm 1 j] using this) (by simp only [List.length_cons] at hk; omega) (inv.set hr' hkn) hB' hK)

theorem wp_region_quiet_tail {id : Nat} {Q : Exit → Act → World → Prop} {a : Act} {w : World} {l : List Oper} (n : Nat) (hm : P.follows .mixedOrders = true) (hB : Region.lexTailB .any l.toArray n = true)
    (hC : C { w with drawn := w.drawn + 1 })
    (h : wpQuiet P l.toArray C (fun a' => ∀ w', C w' → wpList P l.toArray Q (l.drop n) a' w') (l.take n) a) : (Code.region id l.toArray true).wp P Q a w := by
  simp only [Region.lexTailB, Bool.and_eq_true, decide_eq_true_eq] at hB
  obtain ⟨⟨⟨⟨hsel, hn⟩, hs⟩, hc⟩, hlex⟩ := hB
  have hn' : n < l.length := by simpa using hn
  have htl : (l.take n).length = n := by simp; omega
  have hdl : (l.drop n).length = l.toArray.size - n := by simp
  have inv0 : HeadInv .any l.toArray n (Array.replicate l.toArray.size false) :=
    ⟨by simp, fun j oj _ hl => (by rw [getD_replicate_false] at hl; cases hl), fun t _ ht => getD_in (by simpa using ht) (getD_replicate_false _ _)⟩
  have H := wpAnyLQ_lex (md := .any) (g := l.toArray.size - n) hsel hs hc hn (l.take n) 0 _ a (fun j hj => by
    have hj' : j < n := by rw [htl] at hj; exact hj
    simp [hj']) (by simpa using htl) inv0 (by rw [htl]; exact hlex) h
  refine wp_region_any hm ?_
  have := wpAny_of_headQ (Q' := Q) (g := l.toArray.size - n) (fun listed a' w' hw' hL => by
    have := wpAny_of_seq (md := .any) (Q' := Q) (l.drop n) n listed a' w' (fun j => by simp [List.getElem?_drop]) (by rw [hdl]; exact hL.1) (hL.2 w' hw')
    rwa [hdl] at this) _ _ _ _ hC H
  rw [htl, show n + (l.toArray.size - n) = l.toArray.size by omega] at this
  exact this

abbrev ExtC (w : World) : World → Prop := fun w' => ∃ x : Ext w, w' = x.now

theorem wp_region_ext {id : Nat} {Q : Exit → Act → World → Prop} {a : Act} {w : World} {l : List Oper} (hm : P.follows .mixedOrders = true) (hB : Region.lexB .any l.toArray = true)
    (h : wpQuiet P l.toArray (fun w' => ∃ x : Ext w, w' = x.now) (fun a' => ∀ w', (∃ x : Ext w, w' = x.now) → Q .normal a' w') l a) : (Code.region id l.toArray true).wp P Q a w :=
  wp_region_quiet (C := fun w' => ∃ x : Ext w, w' = x.now) hm hB ⟨Ext.drewn w, rfl⟩ (by simpa using h)

theorem wp_region_ext_tail {id : Nat} {Q : Exit → Act → World → Prop} {a : Act} {w : World} {l : List Oper} (n : Nat) (hm : P.follows .mixedOrders = true) (hB : Region.lexTailB .any l.toArray n = true)
    (h : wpQuiet P l.toArray (fun w' => ∃ x : Ext w, w' = x.now) (fun a' => ∀ w', (∃ x : Ext w, w' = x.now) → wpList P l.toArray Q (l.drop n) a' w') (l.take n) a) : (Code.region id l.toArray true).wp P Q a w :=
  wp_region_quiet_tail (C := fun w' => ∃ x : Ext w, w' = x.now) n hm hB ⟨Ext.drewn w, rfl⟩ h

theorem calls_ext {f : FuncId} {args : Array Value} {w : World} {x : Ext w} {v : Value}
    (h : Calls P f args x.now fun e w' => e = .returned v ∧ ∃ y : Ext x.now, w' = y.now) : Calls P f args x.now fun e w'' => e = .returned v ∧ ∃ y : Ext w, w'' = y.now :=
  h.mono fun _ _ ⟨he, y, hy⟩ => ⟨he, x.trans y, hy⟩

theorem calls_ext_same {f : FuncId} {args : Array Value} {w : World} {x : Ext w} {v : Value}
    (h : Calls P f args x.now fun e w' => e = .returned v ∧ x.now = w') : Calls P f args x.now fun e w'' => e = .returned v ∧ ∃ y : Ext w, w'' = y.now :=
  h.mono fun _ _ ⟨he, hy⟩ => ⟨he, x, hy.symm⟩

theorem to_ext {f : FuncId} {args : Array Value} {w : World} {v : Value}
    (h : Calls P f args w fun e w' => e = .returned v ∧ Below w.heap.size w w') : Calls P f args w fun e w' => e = .returned v ∧ ∃ x : Ext w, w' = x.now :=
  h.mono fun _ _ ⟨he, hb⟩ => ⟨he, Ext.of hb⟩

end
end Go.Proofs.YtopcjlimjkfoiaaGreatDoor
namespace Go.Proofs.YtopcjlimjkfoiaaGreatDoor
open Go.RowKit
attribute [local go_sem] Ext.cell Ext.frozen Ext.lt Ext.lt_add Ext.cell2 Ext.frozen2

abbrev tv (n x : Int) (p : Option Addr := none) : Value := .agg #[.int .u64 n, .int .i64 x, .pointer p]

theorem wraps_u64 (n : Int) (h₀ : 0 ≤ n) (h₁ : n < 2 ^ 64) : IntKind.u64.wrap n = n := by
  simp [IntKind.wrap, IntKind.bits, IntKind.signed]
  omega

theorem low_bit {a i : Nat} (ha : a < 2 ^ 30) (h : 30 ≤ i) : a.testBit i = false :=
  Nat.testBit_lt_two_pow (Nat.lt_of_lt_of_le ha (Nat.pow_le_pow_right (by decide) h))

theorem wall_mono (x : Int) (h0 : 0 ≤ x) (h1 : x < 1073741824) : bits .and .u64 x 9223372036854775808 = 0 := by
  obtain ⟨a, rfl⟩ := Int.eq_ofNat_of_zero_le h0
  have ha : a < 2 ^ 30 := by omega
  have := (bits_nat .u64 64 (by decide) wraps_u64 a 9223372036854775808 (by omega) (by decide)).1
  have hz : a &&& 9223372036854775808 = 0 := by
    apply Nat.eq_of_testBit_eq
    intro i
    rw [Nat.testBit_and, Nat.zero_testBit]
    by_cases h : 30 ≤ i
    · rw [low_bit ha h, Bool.false_and]
    · have e : (9223372036854775808 : Nat) = 2 ^ 63 := by decide
      rw [e, Nat.testBit_two_pow]
      have : ¬ 63 = i := by omega
      simp [this]
  rw [hz] at this
  exact this

theorem wall_nsec (x : Int) (h0 : 0 ≤ x) (h1 : x < 1073741824) : bits .and .u64 x 1073741823 = x := by
  have := bits_mask .u64 64 (by decide) wraps_u64 30 (by decide) x h0 (by omega)
  have e : (2 : Int) ^ 30 - 1 = 1073741823 := by decide
  rw [e] at this
  rw [this]
  exact Int.emod_eq_of_lt h0 h1

theorem wall_or (y : Int) (h₀ : 0 ≤ y) (h₁ : y < 18446744073709551616) : bits .or .u64 0 y = y := by
  have := bits_join .u64 64 (by decide) wraps_u64 64 0 y (by decide) (by decide) (by decide) h₀ (by simpa using h₁) (by simpa using h₁)
  simpa using this

theorem mask_bits : ~~~ BitVec.ofInt 64 1073741823 = BitVec.ofNat 64 (2 ^ 64 - 2 ^ 30) := by decide

theorem wall_not (x : Int) (h0 : 0 ≤ x) (h1 : x < 1073741824) : bits .andNot .u64 x 1073741823 = 0 := by
  obtain ⟨a, rfl⟩ := Int.eq_ofNat_of_zero_le h0
  have ha : a < 2 ^ 30 := by omega
  have hz : a &&& (2 ^ 64 - 2 ^ 30) = 0 := by
    apply Nat.eq_of_testBit_eq
    intro i
    rw [Nat.testBit_and, Nat.zero_testBit]
    by_cases h : 30 ≤ i
    · rw [low_bit ha h, Bool.false_and]
    · have e : (2 ^ 64 - 2 ^ 30 : Nat) = 2 ^ 30 * (2 ^ 34 - 1) := by decide
      rw [e, Nat.testBit_two_pow_mul]
      have : ¬ 30 ≤ i := h
      simp [this]
  show IntKind.u64.wrap ((BitVec.ofInt 64 ((a : Nat) : Int) &&& ~~~ BitVec.ofInt 64 1073741823).toNat : Int) = 0
  rw [mask_bits, BitVec.ofInt_natCast, BitVec.toNat_and, BitVec.toNat_ofNat, BitVec.toNat_ofNat, Nat.mod_eq_of_lt (by omega), Nat.mod_eq_of_lt (by decide), hz]
  decide

theorem mono_false (x : Int) (h0 : 0 ≤ x) (h1 : x < 1073741824) : (bits .and .u64 x 9223372036854775808 != 0) = false := by
  rw [wall_mono x h0 h1]; rfl

theorem sec_any (b off : Nat) (wall ext : Int) (w : World) (h0 : 0 ≤ wall) (h1 : wall < 1073741824)
    (hc0 : w.cell? ⟨b, off, none⟩ = some (.int .u64 wall)) (hc1 : w.cell? ⟨b, off + 1, none⟩ = some (.int .i64 ext)) :
    Calls Tryz.prog 111 #[.pointer (some ⟨b, off, none⟩)] w fun e w' => e = .returned (.int .i64 ext) ∧ w = w' := by
  have hb := mono_false wall h0 h1
  go_enter Tryz.func111, Tryz.ntmps111
  go_wp2
  go_ret
  exact ⟨rfl, rfl⟩

theorem unixSec_any (b off : Nat) (wall ext : Int) (w : World) (h0 : 0 ≤ wall) (h1 : wall < 1073741824) (g0 : -9223372036854775808 ≤ ext - 62135596800) (g1 : ext ≤ 9223372036854775807)
    (hc0 : w.cell? ⟨b, off, none⟩ = some (.int .u64 wall)) (hc1 : w.cell? ⟨b, off + 1, none⟩ = some (.int .i64 ext)) :
    Calls Tryz.prog 102 #[.pointer (some ⟨b, off, none⟩)] w fun e w' => e = .returned (.int .i64 (ext - 62135596800)) ∧ w = w' := by
  go_enter Tryz.func102, Tryz.ntmps102
  go_wp2_with (go_at_call 111; refine (sec_any _ _ _ _ _ h0 h1 hc0 hc1).mono ?_; rintro e w' ⟨rfl, rfl⟩)
  go_ret
  exact ⟨by congr 1, rfl⟩

theorem nsec_any (b off : Nat) (wall : Int) (w : World) (h0 : 0 ≤ wall) (h1 : wall < 1073741824)
    (hc0 : w.cell? ⟨b, off, none⟩ = some (.int .u64 wall)) :
    Calls Tryz.prog 103 #[.pointer (some ⟨b, off, none⟩)] w fun e w' => e = .returned (.int .i32 wall) ∧ w = w' := by
  have hb := wall_nsec wall h0 h1
  go_enter Tryz.func103, Tryz.ntmps103
  go_wp2
  go_ret
  exact ⟨rfl, rfl⟩

theorem strip_any (b off : Nat) (wall : Int) (w : World) (h0 : 0 ≤ wall) (h1 : wall < 1073741824)
    (hc0 : w.cell? ⟨b, off, none⟩ = some (.int .u64 wall)) :
    Calls Tryz.prog 104 #[.pointer (some ⟨b, off, none⟩)] w fun e w' => e = .returned (.tuple #[]) ∧ w = w' := by
  have hb := mono_false wall h0 h1
  go_enter Tryz.func104, Tryz.ntmps104
  go_wp2
  go_end0
  exact ⟨rfl, rfl⟩

theorem addSec_any (b off : Nat) (wall ext d : Int) (w : World) (h0 : 0 ≤ wall) (h1 : wall < 1073741824) (g0 : -9223372036854775808 ≤ ext + d) (g1 : ext + d ≤ 9223372036854775807)
    (hc0 : w.cell? ⟨b, off, none⟩ = some (.int .u64 wall)) (hc1 : w.cell? ⟨b, off + 1, none⟩ = some (.int .i64 ext)) (hf1 : w.frozen? ⟨b, off + 1, none⟩ = false) :
    Calls Tryz.prog 176 #[.pointer (some ⟨b, off, none⟩), .int .i64 d] w fun e w' => e = .returned (.tuple #[]) ∧ w' = w.setCell ⟨b, off + 1, none⟩ (.int .i64 (ext + d)) := by
  have hb := mono_false wall h0 h1
  have hs : (decide (ext < ext + d) == decide (0 < d)) = true := by
    rw [beq_iff_eq, decide_eq_decide]; omega
  go_enter Tryz.func176, Tryz.ntmps176
  go_wp2
  go_end0
  exact ⟨rfl, rfl⟩

theorem setLoc_utc (b off l : Nat) (wall : Int) (w : World) (h0 : 0 ≤ wall) (h1 : wall < 1073741824)
    (hc0 : w.cell? ⟨b, off, none⟩ = some (.int .u64 wall)) (hl : w.cell? ⟨l, 0, none⟩ = some (.bool true)) (hf2 : w.frozen? ⟨b, off + 2, none⟩ = false)
    (v : Value) (hc2 : w.cell? ⟨b, off + 2, none⟩ = some v) :
    Calls Tryz.prog 86 #[.pointer (some ⟨b, off, none⟩), .pointer (some ⟨l, 0, none⟩)] w fun e w' => e = .returned (.tuple #[]) ∧ w' = w.setCell ⟨b, off + 2, none⟩ (.pointer none) := by
  go_enter Tryz.func86, Tryz.ntmps86
  go_wp2_with (go_at_call 104; refine (strip_any _ _ _ _ h0 h1 hc0).mono ?_; rintro e w' ⟨rfl, rfl⟩)
  go_end0
  exact ⟨rfl, rfl⟩

theorem bcell {W w1 : World} (hb : Below W.heap.size W w1) : (∀ b o, b < W.heap.size → w1.cell? ⟨b, o, none⟩ = W.cell? ⟨b, o, none⟩) ∧ (∀ b o, b < W.heap.size → w1.frozen? ⟨b, o, none⟩ = W.frozen? ⟨b, o, none⟩) :=
  ⟨fun b o h => hb.cell (p := ⟨b, o, none⟩) h, fun b o h => hb.frozen (p := ⟨b, o, none⟩) h⟩

theorem unixTime_any (s n : Int) (w : World) (g0 : -9223372036854775808 ≤ s + 62135596800) (g1 : s + 62135596800 ≤ 9223372036854775807) (h0 : 0 ≤ n) (h1 : n < 1000000000) :
    Calls Tryz.prog 85 #[.int .i64 s, .int .i32 n] w fun e w' => e = .returned (.agg #[.int .u64 n, .int .i64 (s + 62135596800), .pointer none]) ∧ Below w.heap.size w w' := by
  go_enter Tryz.func85, Tryz.ntmps85
  go_wp2
  exact bodyPost_ret (v := .agg #[.int .u64 n, .int .i64 (s + 62135596800), .pointer none]) (by simp [results, Tryz.results85, go_sem]) rfl ⟨rfl, (Below.refl _ _).alloc (Nat.le_refl _) _⟩

theorem unix_any (s n : Int) (w : World) (g0 : -9223372036854775808 ≤ s + 62135596800) (g1 : s + 62135596800 ≤ 9223372036854775807) (h0 : 0 ≤ n) (h1 : n < 1000000000) :
    Calls Tryz.prog 59 #[.int .i64 s, .int .i64 n] w fun e w' => e = .returned (.agg #[.int .u64 n, .int .i64 (s + 62135596800), .pointer none]) ∧ Below w.heap.size w w' := by
  go_enter Tryz.func59, Tryz.ntmps59
  go_wp2_with (go_at_call 85; refine (unixTime_any _ _ _ g0 g1 h0 h1).mono ?_; rintro e w' ⟨rfl, hb⟩; obtain ⟨hc, hf⟩ := bcell hb)
  exact bodyPost_ret (v := .agg #[.int .u64 n, .int .i64 (s + 62135596800), .pointer none]) (by simp [results, Tryz.results59, go_sem, hc]) rfl
    ⟨rfl, ((((Below.refl _ _).alloc (Nat.le_refl _) _).trans (hb.mono (by simp))).setCell (by simp) _ |>.setCell (by simp) _).setCell (by simp) _⟩

theorem utc_any (w : World) :
    Calls Tryz.prog 61 #[] w fun e w' => e = .returned (.pointer (some ⟨w.heap.size, 0, none⟩)) ∧ w'.cell? ⟨w.heap.size, 0, none⟩ = some (.bool true) ∧ w.heap.size < w'.heap.size ∧ Below w.heap.size w w' := by
  go_enter Tryz.func61, Tryz.ntmps61
  go_wp2
  go_ret
  refine ⟨rfl, by simp [go_sem], by simp, (Below.refl _ _).alloc (Nat.le_refl _) _⟩

theorem in_utc (n x : Int) (p : Option Addr) (l : Nat) (w : World) (h0 : 0 ≤ n) (h1 : n < 1073741824) (hl : w.cell? ⟨l, 0, none⟩ = some (.bool true)) (hlt : l < w.heap.size) :
    Calls Tryz.prog 60 #[tv n x p, .pointer (some ⟨l, 0, none⟩)] w fun e w' => e = .returned (tv n x) ∧ Below w.heap.size w w' := by
  go_enter Tryz.func60, Tryz.ntmps60
  go_wp2_with (go_at_call 86; refine (setLoc_utc _ _ _ n _ h0 h1 (by simp [go_sem]) (by rw [(((Below.refl w.heap.size w).alloc (Nat.le_refl _) _).alloc (by simp) _).cell (p := ⟨l, 0, none⟩) hlt]; exact hl) (by simp [go_sem]) (.pointer p) (by simp [go_sem])).mono ?_; rintro e w' ⟨rfl, rfl⟩)
  exact bodyPost_ret (v := tv n x) (by simp [results, Tryz.results60, go_sem]) rfl
    ⟨rfl, ((Below.refl _ _).alloc (Nat.le_refl _) _).alloc (by simp) _⟩

theorem setLoc_zone (b off l : Nat) (wall : Int) (w : World) (h0 : 0 ≤ wall) (h1 : wall < 1073741824)
    (hc0 : w.cell? ⟨b, off, none⟩ = some (.int .u64 wall)) (hl : w.cell? ⟨l, 0, none⟩ = some (.bool false)) (hf2 : w.frozen? ⟨b, off + 2, none⟩ = false)
    (v : Value) (hc2 : w.cell? ⟨b, off + 2, none⟩ = some v) :
    Calls Tryz.prog 86 #[.pointer (some ⟨b, off, none⟩), .pointer (some ⟨l, 0, none⟩)] w fun e w' => e = .returned (.tuple #[]) ∧ w' = w.setCell ⟨b, off + 2, none⟩ (.pointer (some ⟨l, 0, none⟩)) := by
  go_enter Tryz.func86, Tryz.ntmps86
  go_wp2_with (go_at_call 104; refine (strip_any _ _ _ _ h0 h1 hc0).mono ?_; rintro e w' ⟨rfl, rfl⟩)
  go_end0
  exact ⟨rfl, rfl⟩

theorem in_zone (n x : Int) (p : Option Addr) (l : Nat) (w : World) (h0 : 0 ≤ n) (h1 : n < 1073741824) (hl : w.cell? ⟨l, 0, none⟩ = some (.bool false)) (hlt : l < w.heap.size) :
    Calls Tryz.prog 60 #[tv n x p, .pointer (some ⟨l, 0, none⟩)] w fun e w' => e = .returned (tv n x (some ⟨l, 0, none⟩)) ∧ Below w.heap.size w w' := by
  go_enter Tryz.func60, Tryz.ntmps60
  go_wp2_with (go_at_call 86; refine (setLoc_zone _ _ _ n _ h0 h1 (by simp [go_sem]) (by rw [(((Below.refl w.heap.size w).alloc (Nat.le_refl _) _).alloc (by simp) _).cell (p := ⟨l, 0, none⟩) hlt]; exact hl) (by simp [go_sem]) (.pointer p) (by simp [go_sem])).mono ?_; rintro e w' ⟨rfl, rfl⟩)
  exact bodyPost_ret (v := tv n x (some ⟨l, 0, none⟩)) (by simp [results, Tryz.results60, go_sem]) rfl
    ⟨rfl, ((Below.refl _ _).alloc (Nat.le_refl _) _).alloc (by simp) _⟩

theorem unixM_any (n x : Int) (p : Option Addr) (w : World) (h0 : 0 ≤ n) (h1 : n < 1073741824) (g0 : -9223372036854775808 ≤ x - 62135596800) (g1 : x ≤ 9223372036854775807) :
    Calls Tryz.prog 83 #[tv n x p] w fun e w' => e = .returned (.int .i64 (x - 62135596800)) ∧ Below w.heap.size w w' := by
  go_enter Tryz.func83, Tryz.ntmps83
  go_wp2_with (go_at_call 102; refine (unixSec_any _ _ n x _ h0 h1 g0 g1 (by simp [go_sem]) (by simp [go_sem])).mono ?_; rintro e w' ⟨rfl, rfl⟩)
  go_ret
  exact ⟨rfl, (Below.refl _ _).alloc (Nat.le_refl _) _⟩

theorem nanoM_any (n x : Int) (p : Option Addr) (w : World) (h0 : 0 ≤ n) (h1 : n < 1073741824) :
    Calls Tryz.prog 84 #[tv n x p] w fun e w' => e = .returned (.int .i64 n) ∧ Below w.heap.size w w' := by
  go_enter Tryz.func84, Tryz.ntmps84
  go_wp2_with (go_at_call 103; refine (nsec_any _ _ n _ h0 h1 (by simp [go_sem])).mono ?_; rintro e w' ⟨rfl, rfl⟩)
  go_ret
  exact ⟨rfl, (Below.refl _ _).alloc (Nat.le_refl _) _⟩

theorem wall_or' (n : Int) (h0 : 0 ≤ n) (h1 : n < 1073741824) : bits .or .u64 0 n = n := wall_or n h0 (by omega)

set_option maxHeartbeats 400000 in
theorem add_qr (n x d q r : Int) (p : Option Addr) (w : World) (h0 : 0 ≤ n) (h1 : n < 1000000000) (g0 : -10000000000000000 ≤ x) (g1 : x ≤ 1000000000000000)
    (hq : d.tdiv 1000000000 = q) (hr : d.tmod 1000000000 = r) (r0 : -1000000000 < r) (r1 : r < 1000000000) (q0 : -10000000000 < q) (q1 : q < 10000000000)
    (m s : Int) (hm : (n + r) % 1000000000 = m) (hs : x + q + (n + r) / 1000000000 = s) :
    Calls Tryz.prog 162 #[tv n x p, .int .i64 d] w fun e w' => e = .returned (tv m s p) ∧ Below w.heap.size w w' := by
  have hb := mono_false n h0 (by omega)
  have hz := wall_not n h0 (by omega)
  rcases Int.lt_or_le (n + r) 0 with hlt | hge
  · have hm' : m = n + r + 1000000000 := by omega
    have hs' : s = x + (q - 1) := by omega
    have ho := wall_or' (n + r + 1000000000) (by omega) (by omega)
    have hb2 := mono_false (n + r + 1000000000) (by omega) (by omega)
    clear hm hs
    subst hm' hs'
    go_enter Tryz.func162, Tryz.ntmps162
    go_wp2_with (first
      | (go_at_call 103; refine (nsec_any _ _ n _ h0 (by omega) (by simp [go_sem])).mono ?_; rintro e w' ⟨rfl, rfl⟩)
      | (go_at_call 176; refine (addSec_any _ _ (n + r + 1000000000) x _ _ (by omega) (by omega) (by omega) (by omega) (by simp [go_sem]) (by simp [go_sem]) (by simp [go_sem])).mono ?_; rintro e w' ⟨rfl, rfl⟩))
    exact bodyPost_ret (v := tv (n + r + 1000000000) (x + (q - 1)) p) (by simp [results, Tryz.results162, go_sem]) rfl
      ⟨rfl, ((Below.refl _ _).alloc (Nat.le_refl _) _).alloc (by simp) _⟩
  · rcases Int.lt_or_le (n + r) 1000000000 with hlt2 | hge2
    · have hm' : m = n + r := by omega
      have hs' : s = x + q := by omega
      have ho := wall_or' (n + r) (by omega) (by omega)
      have hb2 := mono_false (n + r) (by omega) (by omega)
      clear hm hs
      subst hm' hs'
      go_enter Tryz.func162, Tryz.ntmps162
      go_wp2_with (first
        | (go_at_call 103; refine (nsec_any _ _ n _ h0 (by omega) (by simp [go_sem])).mono ?_; rintro e w' ⟨rfl, rfl⟩)
        | (go_at_call 176; refine (addSec_any _ _ (n + r) x _ _ (by omega) (by omega) (by omega) (by omega) (by simp [go_sem]) (by simp [go_sem]) (by simp [go_sem])).mono ?_; rintro e w' ⟨rfl, rfl⟩))
      exact bodyPost_ret (v := tv (n + r) (x + q) p) (by simp [results, Tryz.results162, go_sem]) rfl
        ⟨rfl, ((Below.refl _ _).alloc (Nat.le_refl _) _).alloc (by simp) _⟩
    · have hm' : m = n + r - 1000000000 := by omega
      have hs' : s = x + (q + 1) := by omega
      have ho := wall_or' (n + r - 1000000000) (by omega) (by omega)
      have hb2 := mono_false (n + r - 1000000000) (by omega) (by omega)
      clear hm hs
      subst hm' hs'
      go_enter Tryz.func162, Tryz.ntmps162
      go_wp2_with (first
        | (go_at_call 103; refine (nsec_any _ _ n _ h0 (by omega) (by simp [go_sem])).mono ?_; rintro e w' ⟨rfl, rfl⟩)
        | (go_at_call 176; refine (addSec_any _ _ (n + r - 1000000000) x _ _ (by omega) (by omega) (by omega) (by omega) (by simp [go_sem]) (by simp [go_sem]) (by simp [go_sem])).mono ?_; rintro e w' ⟨rfl, rfl⟩))
      exact bodyPost_ret (v := tv (n + r - 1000000000) (x + (q + 1)) p) (by simp [results, Tryz.results162, go_sem]) rfl
        ⟨rfl, ((Below.refl _ _).alloc (Nat.le_refl _) _).alloc (by simp) _⟩

end Go.Proofs.YtopcjlimjkfoiaaGreatDoor
namespace Go.Cal

def cyearOf (cd : Nat) : Nat := 2939745 * cd / 4294967296
def aydayOf (cd : Nat) : Nat := 2939745 * cd % 4294967296 / 2939745 / 4
def amonOf (a : Nat) : Nat := (2141 * a + 197913) / 65536
def mdayOf (a : Nat) : Nat := (2141 * a + 197913) % 65536 / 2141
def ydayOf (m : Nat) : Nat := (979 * m - 2919) / 32

def upto (n : Nat) (p : Nat → Bool) : Bool := Nat.rec true (fun k b => b && p k) n

theorem upto_all {n : Nat} {p : Nat → Bool} (h : upto n p = true) : ∀ k, k < n → p k = true := by
  induction n with
  | zero => intro k hk; omega
  | succ n ih =>
    intro k hk
    have h' : (upto n p && p n) = true := h
    rw [Bool.and_eq_true] at h'
    by_cases e : k = n
    · subst e; exact h'.2
    · exact ih h'.1 k (by omega)

def chk (k : Nat) : Bool := let cd := 4 * k + 3; Nat.beq (cyearOf cd) (cd / 1461) && Nat.beq (aydayOf cd) (cd % 1461 / 4)

theorem chk_all : upto 25 (fun i => upto 1461 fun j => chk (1461 * i + j)) = true := by decide +kernel

theorem split_ok (k : Nat) (h : k < 36525) : cyearOf (4 * k + 3) = (4 * k + 3) / 1461 ∧ aydayOf (4 * k + 3) = (4 * k + 3) % 1461 / 4 := by
  have h1 := upto_all (upto_all chk_all (k / 1461) (by omega)) (k % 1461) (by omega)
  rw [Nat.div_add_mod] at h1
  unfold chk at h1
  simp only [Bool.and_eq_true] at h1
  exact ⟨Nat.eq_of_beq_eq_true h1.1, Nat.eq_of_beq_eq_true h1.2⟩

def chkM (a : Nat) : Bool := Nat.beq (amonOf a) ((5 * a + 461) / 153) && Nat.beq (mdayOf a) ((5 * a + 461) % 153 / 5) && Nat.beq (ydayOf (amonOf a) + mdayOf a) a

theorem mon_ok (a : Nat) (h : a < 366) : amonOf a = (5 * a + 461) / 153 ∧ mdayOf a = (5 * a + 461) % 153 / 5 ∧ ydayOf (amonOf a) + mdayOf a = a := by
  have h1 := upto_all (show upto 366 chkM = true by decide +kernel) a h
  unfold chkM at h1
  simp only [Bool.and_eq_true] at h1
  exact ⟨Nat.eq_of_beq_eq_true h1.1.1, Nat.eq_of_beq_eq_true h1.1.2, Nat.eq_of_beq_eq_true h1.2⟩

theorem or3 (n : Nat) (h : n < 146100) : n ||| 3 = n / 4 * 4 + 3 := by
  have h1 := upto_all (upto_all (show upto 100 (fun i => upto 1461 fun j => Nat.beq ((1461 * i + j) ||| 3) ((1461 * i + j) / 4 * 4 + 3)) = true by decide +kernel) (n / 1461) (by omega)) (n % 1461) (by omega)
  rw [Nat.div_add_mod] at h1
  exact Nat.eq_of_beq_eq_true h1

def cen (D : Nat) : Nat := (4 * D + 3) / 146097
def cdw (D : Nat) : Nat := (4 * D + 3) % 146097 ||| 3
def cyr (D : Nat) : Nat := cyearOf (cdw D)
def ayd (D : Nat) : Nat := aydayOf (cdw D)
def jfb (D : Nat) : Nat := if 306 ≤ ayd D then 1 else 0
def yearD (D : Nat) : Nat := cen D * 100 + cyr D + jfb D
def monD (D : Nat) : Nat := amonOf (ayd D) - 12 * jfb D
def dayD (D : Nat) : Nat := 1 + mdayOf (ayd D)
def jfM (M : Nat) : Nat := if M < 3 then 1 else 0
def firstD (Y M : Nat) : Nat := 146097 * ((Y - jfM M) / 100) / 4 + (1461 * ((Y - jfM M) % 100) / 4 + ydayOf (M + 12 * jfM M))

structure Parts (D c cy a k : Nat) : Prop where
  hcen : cen D = c
  hcyr : cyr D = cy
  hayd : ayd D = a
  day : D = 146097 * c / 4 + k
  hk : k = 1461 * cy / 4 + a
  hcy : cy < 100
  ha : a < 366
  top : 4 * k + 3 < 1461 * (cy + 1)
  topc : 4 * D + 3 < 146097 * (c + 1)

theorem parts (D : Nat) : ∃ k, Parts D (cen D) (cyr D) (ayd D) k := by
  have h3 : cdw D = 4 * ((4 * D + 3) % 146097 / 4) + 3 := by
    unfold cdw
    rw [or3 _ (by omega)]
    omega
  obtain ⟨k, hk⟩ : ∃ k, k = (4 * D + 3) % 146097 / 4 := ⟨_, rfl⟩
  rw [← hk] at h3
  have hk2 : k < 36525 := by omega
  obtain ⟨h1, h2⟩ := split_ok k hk2
  refine ⟨k, rfl, rfl, rfl, ?_, ?_, ?_, ?_, ?_, ?_⟩
  · unfold cen; omega
  · unfold cyr ayd; rw [h3, h1, h2]; omega
  · unfold cyr; rw [h3, h1]; omega
  · unfold ayd; rw [h3, h2]; omega
  · unfold cyr; rw [h3, h1]; omega
  · unfold cen; omega

def chkA (a : Nat) : Bool :=
  let m := amonOf a
  let j := if 306 ≤ a then 1 else 0
  Nat.ble 3 m && Nat.ble m 14 && Nat.beq (if m - 12 * j < 3 then 1 else 0) j && Nat.ble (12 * j + 1) m && Nat.ble (m - 12 * j) 12 && (Nat.beq m 14 || (Nat.blt m 14 && Nat.blt a (ydayOf (m + 1))))

theorem a_ok (a : Nat) (h : a < 366) (j : Nat) (hj : j = if 306 ≤ a then 1 else 0) : 3 ≤ amonOf a ∧ amonOf a ≤ 14 ∧ jfM (amonOf a - 12 * j) = j ∧ 12 * j + 1 ≤ amonOf a ∧ amonOf a - 12 * j ≤ 12 ∧ (amonOf a = 14 ∨ (amonOf a < 14 ∧ a < ydayOf (amonOf a + 1))) := by
  have h1 := upto_all (show upto 366 chkA = true by decide +kernel) a h
  unfold chkA at h1
  rw [← hj] at h1
  simp only [Bool.and_eq_true, Bool.or_eq_true] at h1
  obtain ⟨⟨⟨⟨⟨h1, h2⟩, h3⟩, h4⟩, h5⟩, h6⟩ := h1
  refine ⟨Nat.le_of_ble_eq_true h1, Nat.le_of_ble_eq_true h2, Nat.eq_of_beq_eq_true h3, Nat.le_of_ble_eq_true h4, Nat.le_of_ble_eq_true h5, ?_⟩
  rcases h6 with h6 | h6
  · exact .inl (Nat.eq_of_beq_eq_true h6)
  · exact .inr ⟨Nat.le_of_ble_eq_true h6.1, Nat.le_of_ble_eq_true h6.2⟩

theorem jf_le (D : Nat) : jfb D ≤ 1 := by unfold jfb; split <;> omega

theorem mon_range (D : Nat) : 1 ≤ monD D ∧ monD D ≤ 12 ∧ jfM (monD D) = jfb D := by
  obtain ⟨k, p⟩ := parts D
  obtain ⟨_, _, h3, h4, h5, _⟩ := a_ok (ayd D) p.ha (jfb D) rfl
  unfold monD
  exact ⟨by omega, h5, h3⟩

theorem first_day (D : Nat) : firstD (yearD D) (monD D) + (dayD D - 1) = D := by
  obtain ⟨k, p⟩ := parts D
  obtain ⟨_, _, h3, h4, h5, _⟩ := a_ok (ayd D) p.ha (jfb D) rfl
  obtain ⟨_, _, hm⟩ := mon_ok (ayd D) p.ha
  have hj := (mon_range D).2.2
  have h1 := p.day
  have h2 := p.hk
  have h6 := p.hcy
  unfold firstD
  rw [hj]
  have e1 : yearD D - jfb D = cen D * 100 + cyr D := by unfold yearD; omega
  have e2 : monD D + 12 * jfb D = amonOf (ayd D) := by unfold monD; omega
  have e3 : dayD D - 1 = mdayOf (ayd D) := by unfold dayD; omega
  rw [e1, e2, e3, show (cen D * 100 + cyr D) / 100 = cen D by omega, show (cen D * 100 + cyr D) % 100 = cyr D by omega]
  omega

theorem yd_le (m : Nat) (h3 : 3 ≤ m) (h : m ≤ 14) : ydayOf m ≤ 337 ∧ amonOf (ydayOf m) = m ∧ mdayOf (ydayOf m) = 0 ∧ (306 ≤ ydayOf m ↔ 13 ≤ m) := by
  have : ∀ i : Fin 12, ydayOf (i.val + 3) ≤ 337 ∧ amonOf (ydayOf (i.val + 3)) = i.val + 3 ∧ mdayOf (ydayOf (i.val + 3)) = 0 ∧ (306 ≤ ydayOf (i.val + 3) ↔ 13 ≤ i.val + 3) := by decide +kernel
  have h1 := this ⟨m - 3, by omega⟩
  simp only [show m - 3 + 3 = m by omega] at h1
  exact h1

theorem first_read (Y M : Nat) (hY : 1 ≤ Y) (h1 : 1 ≤ M) (h2 : M ≤ 12) : yearD (firstD Y M) = Y ∧ monD (firstD Y M) = M ∧ dayD (firstD Y M) = 1 := by
  obtain ⟨D, hD⟩ : ∃ D, D = firstD Y M := ⟨_, rfl⟩
  rw [← hD]
  have hj1 : jfM M ≤ 1 := by unfold jfM; split <;> omega
  have hj2 : 3 ≤ M + 12 * jfM M ∧ M + 12 * jfM M ≤ 14 ∧ (13 ≤ M + 12 * jfM M ↔ jfM M = 1) := by unfold jfM; split <;> omega
  obtain ⟨y1, y2, y3, y4⟩ := yd_le _ hj2.1 hj2.2.1
  obtain ⟨c, hc⟩ : ∃ c, c = (Y - jfM M) / 100 := ⟨_, rfl⟩
  obtain ⟨cy, hcy⟩ : ∃ cy, cy = (Y - jfM M) % 100 := ⟨_, rfl⟩
  unfold firstD at hD
  rw [← hc, ← hcy] at hD
  obtain ⟨m, hm⟩ : ∃ m, m = M + 12 * jfM M := ⟨_, rfl⟩
  rw [← hm] at y1 y2 y3 y4 hj2 hD
  obtain ⟨k, p⟩ := parts D
  have e1 : cen D = c := by unfold cen; omega
  have h5 := p.day
  rw [e1] at h5
  have e2 : k = 1461 * cy / 4 + ydayOf m := by omega
  have h6 := p.hk
  have h7 := p.top
  have h8 := p.ha
  have h9 := p.hcy
  have e3 : cyr D = cy := by omega
  have e4 : ayd D = ydayOf m := by rw [e3] at h6; omega
  have e5 : jfb D = jfM M := by
    unfold jfb
    rw [e4]
    by_cases h : 306 ≤ ydayOf m
    · rw [if_pos h]; exact (hj2.2.2.1 (y4.1 h)).symm
    · rw [if_neg h]
      have : ¬ jfM M = 1 := fun q => h (y4.2 (hj2.2.2.2 q))
      omega
  refine ⟨?_, ?_, ?_⟩
  · unfold yearD; rw [e1, e3, e5]; omega
  · unfold monD; rw [e4, e5, y2]; omega
  · unfold dayD; rw [e4, y3]

def nextY (Y M : Nat) : Nat := if M = 12 then Y + 1 else Y
def nextM (M : Nat) : Nat := if M = 12 then 1 else M + 1

theorem yd_mono : ∀ i : Fin 11, ydayOf (i.val + 3) < ydayOf (i.val + 4) := by decide +kernel

theorem before_next (D : Nat) : D < firstD (nextY (yearD D) (monD D)) (nextM (monD D)) := by
  obtain ⟨k, p⟩ := parts D
  obtain ⟨_, a2, h3, h4, h5, h6⟩ := a_ok (ayd D) p.ha (jfb D) rfl
  obtain ⟨m1, m2, hj⟩ := mon_range D
  have hjl := jf_le D
  have q1 := p.day
  have q2 := p.hk
  have q3 := p.hcy
  have q4 := p.top
  have q5 := p.topc
  have em : monD D + 12 * jfb D = amonOf (ayd D) := by unfold monD; omega
  have ey0 : yearD D = cen D * 100 + cyr D + jfb D := rfl
  have ey : yearD D - jfb D = cen D * 100 + cyr D := by omega
  have ej : (monD D < 3 ∧ jfb D = 1) ∨ (3 ≤ monD D ∧ jfb D = 0) := by
    rw [← hj]
    unfold jfM
    split
    · exact .inl ⟨by assumption, rfl⟩
    · exact .inr ⟨by omega, rfl⟩
  rcases h6 with h6 | ⟨h6a, h6⟩
  · -- February
    have e1 : monD D = 2 ∧ jfb D = 1 := by omega
    have e2 : nextY (yearD D) (monD D) = cen D * 100 + cyr D + 1 := by unfold nextY; rw [e1.1, if_neg (by omega)]; have := e1.2; omega
    have e3 : nextM (monD D) = 3 := by unfold nextM; rw [e1.1]; rfl
    rw [e2, e3]
    unfold firstD
    have e4 : jfM 3 = 0 := rfl
    have e5 : ydayOf (3 + 12 * jfM 3) = 0 := by decide
    rw [e5, e4, Nat.sub_zero]
    by_cases h99 : cyr D = 99
    · rw [show (cen D * 100 + cyr D + 1) / 100 = cen D + 1 by omega, show (cen D * 100 + cyr D + 1) % 100 = 0 by omega]
      omega
    · rw [show (cen D * 100 + cyr D + 1) / 100 = cen D by omega, show (cen D * 100 + cyr D + 1) % 100 = cyr D + 1 by omega]
      omega
  · -- within the year of March
    have e0 : firstD (nextY (yearD D) (monD D)) (nextM (monD D)) = 146097 * cen D / 4 + (1461 * cyr D / 4 + ydayOf (amonOf (ayd D) + 1)) := by
      by_cases h12 : monD D = 12
      · have e1 : jfb D = 0 := by omega
        unfold firstD nextY nextM
        rw [if_pos h12, if_pos h12, show jfM 1 = 1 from rfl, show yearD D + 1 - 1 = cen D * 100 + cyr D by omega, show (cen D * 100 + cyr D) / 100 = cen D by omega, show (cen D * 100 + cyr D) % 100 = cyr D by omega, show 1 + 12 * 1 = amonOf (ayd D) + 1 by omega]
      · by_cases h2 : monD D = 2
        · exfalso
          omega
        · have e1 : jfM (monD D + 1) = jfb D := by
            unfold jfM
            split <;> omega
          unfold firstD nextY nextM
          rw [if_neg h12, if_neg h12, e1, ey, show (cen D * 100 + cyr D) / 100 = cen D by omega, show (cen D * 100 + cyr D) % 100 = cyr D by omega, show monD D + 1 + 12 * jfb D = amonOf (ayd D) + 1 by omega]
    rw [e0]
    omega

theorem first_next (Y M : Nat) (hY : 1 ≤ Y) (h1 : 1 ≤ M) (h2 : M ≤ 12) : firstD Y M < firstD (nextY Y M) (nextM M) := by
  obtain ⟨r1, r2, _⟩ := first_read Y M hY h1 h2
  have := before_next (firstD Y M)
  rwa [r1, r2] at this

theorem first_year (Y : Nat) (hY : 1 ≤ Y) : ∀ (n M : Nat), n + M = 12 → 1 ≤ M → firstD Y M < firstD (Y + 1) 1
  | 0, M, h, _ => by
    obtain rfl : M = 12 := by omega
    have := first_next Y 12 hY (by omega) (by omega)
    simpa [nextY, nextM] using this
  | n + 1, M, h, h1 => by
    have a := first_next Y M hY h1 (by omega)
    have b := first_year Y hY n (M + 1) (by omega) (by omega)
    unfold nextY nextM at a
    rw [if_neg (by omega), if_neg (by omega)] at a
    omega

theorem first_mono (Y : Nat) (hY : 1 ≤ Y) : ∀ n, firstD Y 1 ≤ firstD (Y + n) 1
  | 0 => Nat.le_refl _
  | n + 1 => by
    have a := first_mono Y hY n
    have b := first_year (Y + n) (by omega) 11 1 rfl (by omega)
    have e : Y + n + 1 = Y + (n + 1) := by omega
    rw [e] at b
    omega

theorem day_year (D : Nat) (h : 1 ≤ yearD D) : D < firstD (yearD D + 1) 1 := by
  obtain ⟨m1, m2, _⟩ := mon_range D
  have a := before_next D
  by_cases e : monD D = 12
  · unfold nextY nextM at a
    rw [if_pos e, if_pos e] at a
    exact a
  · have b := first_year (yearD D) h (12 - (monD D + 1)) (monD D + 1) (by omega) (by omega)
    unfold nextY nextM at a
    rw [if_neg e, if_neg e] at a
    omega

theorem year_ge (D L : Nat) (h : 1 ≤ yearD D) (hD : firstD (L + 1) 1 ≤ D) : L + 1 ≤ yearD D := by
  by_cases e : L + 1 ≤ yearD D
  · exact e
  · exfalso
    have a := day_year D h
    have b := first_mono (yearD D + 1) (by omega) (L - yearD D)
    rw [show yearD D + 1 + (L - yearD D) = L + 1 by omega] at b
    omega

end Go.Cal
