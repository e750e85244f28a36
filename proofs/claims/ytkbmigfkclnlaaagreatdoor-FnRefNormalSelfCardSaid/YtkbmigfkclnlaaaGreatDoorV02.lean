/-
FnRefNormalSelf: the regular expressions, the digest and the reference, part 2 of 26.
-/
import Derived.Test.YtkbmigfkclnlaaaGreatDoorV01
import Derived.Scope
import Derived.StillTail
import Derived.Deep.QuietTactic
import Derived.Below
import Derived.WalkKit
import Derived.KernelRfl
import Derived.OrdersHeld
set_option linter.all false
namespace Go.Rx
open Env

def dig (x : Nat) : Bool := decide (48 ≤ x ∧ x ≤ 57)
def low (x : Nat) : Bool := decide (97 ≤ x ∧ x ≤ 122) || dig x
def aln (x : Nat) : Bool := low x || decide (65 ≤ x ∧ x ≤ 90)
def wrd (x : Nat) : Bool := aln x || decide (x = 95)
def hex (x : Nat) : Bool := dig x || decide (97 ≤ x ∧ x ≤ 102) || decide (65 ≤ x ∧ x ≤ 70)
def is (c x : Nat) : Bool := decide (x = c)
def AllOf (p : Nat → Bool) (l : List Nat) : Prop := l ≠ [] ∧ ∀ x ∈ l, p x = true

theorem star_one (p : Nat → Bool) (l : List Nat) : Star (One p) l ↔ ∀ x ∈ l, p x = true := by
 constructor
 ·intro h
  induction h with
  | nil => simp
  | cons h _ ih =>
   obtain ⟨x, rfl, hp⟩ := h
   intro y hy
   rcases List.mem_append.1 hy with hy | hy
   ·simp at hy; rw [hy]; exact hp
   ·exact ih y hy
 ·intro h
  induction l with
  | nil => exact .nil
  | cons x l ih =>
   exact .cons (a := [x]) ⟨x, rfl, h x (List.mem_cons_self ..)⟩ (ih fun y hy => h y (List.mem_cons_of_mem _ hy))

theorem plus_one (p : Nat → Bool) (l : List Nat) : Plus (One p) l ↔ AllOf p l := by
 constructor
 ·rintro ⟨a, b, rfl, ⟨x, rfl, hp⟩, hs⟩
  refine ⟨by simp, fun y hy => ?_⟩
  rcases List.mem_append.1 hy with hy | hy
  ·simp at hy; rw [hy]; exact hp
  ·exact (star_one p b).1 hs y hy
 ·rintro ⟨hne, h⟩
  cases l with
  | nil => exact absurd rfl hne
  | cons x l => exact ⟨[x], l, rfl, ⟨x, rfl, h x (List.mem_cons_self ..)⟩, (star_one p l).2 fun y hy => h y (List.mem_cons_of_mem _ hy)⟩

theorem Star.append {L : List Nat → Prop} {a b : List Nat} (h : Star L a) (g : Star L b) : Star L (a ++ b) := by
 induction h with
 | nil => exact g
 | cons h _ ih => rw [List.append_assoc]; exact .cons h ih

theorem Star.mono {L M : List Nat → Prop} (h : ∀ v, L v → M v) {a : List Nat} (g : Star L a) : Star M a := by
 induction g with
 | nil => exact .nil
 | cons h' _ ih => exact .cons (h _ h') ih


def pieces (c : Nat) : List Nat → List (List Nat)
 | [] => [[]]
 | x :: r => if x = c then [] :: pieces c r else
  match pieces c r with
  | p :: ps => (x :: p) :: ps
  | [] => [[x]]

theorem pieces_none {c : Nat} {l : List Nat} (h : c ∉ l) : pieces c l = [l] := by
 induction l with
 | nil => rfl
 | cons x r ih =>
  have hx : x ≠ c := fun e => h (by rw [e]; exact List.mem_cons_self ..)
  unfold pieces
  rw [if_neg hx, ih fun hh => h (List.mem_cons_of_mem _ hh)]

theorem pieces_at {c : Nat} {a : List Nat} (b : List Nat) (h : c ∉ a) : pieces c (a ++ c :: b) = a :: pieces c b := by
 induction a with
 | nil => simp [pieces]
 | cons x r ih =>
  have hx : x ≠ c := fun e => h (by rw [e]; exact List.mem_cons_self ..)
  rw [List.cons_append]
  conv => lhs; unfold pieces
  rw [if_neg hx, ih fun hh => h (List.mem_cons_of_mem _ hh)]

theorem split_first {c : Nat} {l : List Nat} (h : c ∈ l) : ∃ a b, l = a ++ c :: b ∧ c ∉ a := by
 induction l with
 | nil => cases h
 | cons x r ih =>
  by_cases hx : x = c
  ·exact ⟨[], r, by rw [hx]; rfl, by simp⟩
  ·obtain ⟨a, b, e, hn⟩ := ih (by rcases List.mem_cons.1 h with h | h; exact absurd h.symm hx; exact h)
   exact ⟨x :: a, b, by rw [e]; rfl, by simp [hn]; exact fun e => hx e.symm⟩

theorem sep_pieces {c : Nat} {L : List Nat → Prop} (hL : ∀ v, L v → c ∉ v) (l : List Nat) : Cat L (Star (Cat (One (is c)) L)) l ↔ ∀ p ∈ pieces c l, L p := by
 constructor
 ·rintro ⟨a, t, rfl, ha, ht⟩
  induction ht generalizing a with
  | nil => rw [List.append_nil, pieces_none (hL a ha)]; intro p hp; simp at hp; rw [hp]; exact ha
  | @cons u t' hu _ ih =>
   obtain ⟨s, b, rfl, ⟨x, rfl, hx⟩, hb⟩ := hu
   have hx' : x = c := by simpa [is] using hx
   subst hx'
   have e : a ++ ([x] ++ b ++ t') = a ++ x :: (b ++ t') := by simp
   rw [e, pieces_at _ (hL a ha)]
   intro p hp
   rcases List.mem_cons.1 hp with rfl | hp
   ·exact ha
   ·exact ih b hb p hp
 ·have key : ∀ (n : Nat) (l : List Nat), l.length ≤ n → (∀ p ∈ pieces c l, L p) → Cat L (Star (Cat (One (is c)) L)) l := by
   intro n
   induction n with
   | zero =>
    intro l hl h
    have : l = [] := List.length_eq_zero_iff.1 (by omega)
    subst this
    exact ⟨[], [], rfl, h [] (by simp [pieces]), .nil⟩
   | succ n ih =>
    intro l hl h
    by_cases hc : c ∈ l
    ·obtain ⟨a, b, rfl, hn⟩ := split_first hc
     rw [pieces_at _ hn] at h
     obtain ⟨x, t, rfl, hx, ht⟩ := ih b (by simp at hl; omega) (fun p hp => h p (List.mem_cons_of_mem _ hp))
     refine ⟨a, c :: (x ++ t), rfl, h a (List.mem_cons_self ..), ?_⟩
     exact .cons (a := [c] ++ x) (b := t) ⟨[c], x, rfl, ⟨c, rfl, by simp [is]⟩, hx⟩ ht
    ·rw [pieces_none hc] at h
     exact ⟨l, [], by simp, h l (by simp), .nil⟩
  exact key _ l (Nat.le_refl _)


def Sep : List Nat → Prop := Alt (Alt (One fun x => is 46 x || is 95 x) (Cat (One (is 95)) (One (is 95)))) (Plus (One (is 45)))
def Word : List Nat → Prop := Plus (One low)
def Comp : List Nat → Prop := Cat Word (Star (Cat Sep Word))
def Path : List Nat → Prop := Cat Comp (Star (Cat (One (is 47)) Comp))

def SepIs (l : List Nat) : Prop := l = [46] ∨ l = [95] ∨ l = [95, 95] ∨ AllOf (is 45) l

theorem sep_iff (l : List Nat) : Sep l ↔ SepIs l := by
 unfold Sep SepIs Alt
 rw [plus_one]
 constructor
 ·rintro ((⟨x, rfl, h⟩ | ⟨a, b, rfl, ⟨x, rfl, h⟩, ⟨y, rfl, g⟩⟩) | h)
  ·simp [is] at h
   rcases h with rfl | rfl
   ·exact .inl rfl
   ·exact .inr (.inl rfl)
  ·simp [is] at h g
   subst h; subst g
   exact .inr (.inr (.inl rfl))
  ·exact .inr (.inr (.inr h))
 ·rintro (rfl | rfl | rfl | h)
  ·exact .inl (.inl ⟨46, rfl, rfl⟩)
  ·exact .inl (.inl ⟨95, rfl, rfl⟩)
  ·exact .inl (.inr ⟨[95], [95], rfl, ⟨95, rfl, rfl⟩, ⟨95, rfl, rfl⟩⟩)
  ·exact .inr h

theorem sep_chars {l : List Nat} (h : Sep l) : l ≠ [] ∧ ∀ x ∈ l, x = 46 ∨ x = 95 ∨ x = 45 := by
 rcases (sep_iff l).1 h with rfl | rfl | rfl | ⟨h1, h2⟩
 ·simp
 ·simp
 ·simp
 ·refine ⟨h1, fun x hx => ?_⟩
  have := h2 x hx
  simp [is] at this
  exact .inr (.inr this)

theorem low_iff (x : Nat) : low x = true ↔ (97 ≤ x ∧ x ≤ 122) ∨ (48 ≤ x ∧ x ≤ 57) := by simp [low, dig]

def tailF : Nat → List Nat → Bool
 | _, [] => true
 | 0, _ :: _ => false
 | k + 1, x :: r =>
  let l := x :: r
  let s := l.takeWhile (fun y => !low y)
  let m := l.dropWhile (fun y => !low y)
  let w := m.takeWhile low
  (decide (s = [46]) || decide (s = [95]) || decide (s = [95, 95]) || (decide (s ≠ []) && s.all (is 45))) && decide (w ≠ []) && tailF k (m.dropWhile low)

def compF (l : List Nat) : Bool := decide (l.takeWhile low ≠ []) && tailF l.length (l.dropWhile low)

theorem sepB_iff (s : List Nat) : (decide (s = [46]) || decide (s = [95]) || decide (s = [95, 95]) || (decide (s ≠ []) && s.all (is 45))) = true ↔ SepIs s := by
 unfold SepIs AllOf
 simp [or_assoc]

theorem takeWhile_all {p : Nat → Bool} {a b : List Nat} (ha : ∀ x ∈ a, p x = true) (hb : ∀ x r, b = x :: r → p x = false) : (a ++ b).takeWhile p = a ∧ (a ++ b).dropWhile p = b := by
 induction a with
 | nil =>
  cases b with
  | nil => simp
  | cons x r => have := hb x r rfl; simp [List.takeWhile, List.dropWhile, this]
 | cons x r ih =>
  have hx := ha x (List.mem_cons_self ..)
  obtain ⟨h1, h2⟩ := ih fun y hy => ha y (List.mem_cons_of_mem _ hy)
  simp only [List.cons_append, List.takeWhile, List.dropWhile, hx, h1, h2, and_self]

theorem mem_takeWhile {p : Nat → Bool} {l : List Nat} {x : Nat} (h : x ∈ l.takeWhile p) : p x = true := by
 induction l with
 | nil => simp at h
 | cons y r ih =>
  unfold List.takeWhile at h
  split at h
  ·rcases List.mem_cons.1 h with rfl | h
   ·assumption
   ·exact ih h
  ·cases h

theorem word_iff (l : List Nat) : Word l ↔ AllOf low l := plus_one low l

theorem tailF_ok : ∀ (k : Nat) (l : List Nat), tailF k l = true → Star (Cat Sep Word) l := by
 intro k
 induction k with
 | zero =>
  intro l h
  cases l with
  | nil => exact .nil
  | cons x r => simp [tailF] at h
 | succ k ih =>
  intro l h
  cases l with
  | nil => exact .nil
  | cons x r =>
   unfold tailF at h
   dsimp only at h
   rw [Bool.and_eq_true, Bool.and_eq_true, sepB_iff] at h
   obtain ⟨⟨h1, h2⟩, h3⟩ := h
   have h4 := ih _ h3
   have e : x :: r = ((x :: r).takeWhile (fun y => !low y) ++ ((x :: r).dropWhile (fun y => !low y)).takeWhile low) ++ ((x :: r).dropWhile (fun y => !low y)).dropWhile low := by
    rw [List.append_assoc, List.takeWhile_append_dropWhile, List.takeWhile_append_dropWhile]
   rw [e]
   refine .cons ⟨_, _, rfl, (sep_iff _).2 h1, (word_iff _).2 ⟨by simpa using h2, fun y hy => mem_takeWhile hy⟩⟩ h4

theorem sep_not_low {l : List Nat} (h : Sep l) : ∀ x ∈ l, (fun y => !low y) x = true := by
 intro x hx
 have := (sep_chars h).2 x hx
 simp [low, dig]
 omega

theorem tail_head {l : List Nat} (h : Star (Cat Sep Word) l) {x : Nat} {r : List Nat} (e : l = x :: r) : low x = false := by
 cases h with
 | nil => cases e
 | cons h _ =>
  obtain ⟨s, w, rfl, hs, _⟩ := h
  obtain ⟨hne, _⟩ := sep_chars hs
  cases s with
  | nil => exact absurd rfl hne
  | cons y t =>
   have := (List.cons.inj e).1
   subst this
   simpa using sep_not_low hs y (List.mem_cons_self ..)

theorem tailF_all : ∀ (k : Nat) (l : List Nat), l.length ≤ k → Star (Cat Sep Word) l → tailF k l = true := by
 intro k
 induction k with
 | zero =>
  intro l hl h
  have : l = [] := List.length_eq_zero_iff.1 (by omega)
  subst this
  rfl
 | succ k ih =>
  intro l hl h
  cases h with
  | nil => rfl
  | @cons a b h hb =>
   obtain ⟨s, w, rfl, hs, hw⟩ := h
   obtain ⟨hw1, hw2⟩ := (word_iff _).1 hw
   have hsn := sep_not_low hs
   obtain ⟨hs1, _⟩ := sep_chars hs
   obtain ⟨t1, d1⟩ := takeWhile_all (p := fun y => !low y) (a := s) (b := w ++ b) hsn (by
    intro x r e
    cases w with
    | nil => exact absurd rfl hw1
    | cons y t =>
     have := (List.cons.inj e).1
     subst this
     simpa using hw2 y (List.mem_cons_self ..))
   obtain ⟨t2, d2⟩ := takeWhile_all (p := low) (a := w) (b := b) hw2 (fun x r e => tail_head hb e)
   have hlen : s.length ≠ 0 := fun e => hs1 (List.length_eq_zero_iff.1 e)
   have hb' : tailF k b = true := ih b (by simp at hl; omega) hb
   rw [List.append_assoc]
   rw [List.append_assoc] at hl
   obtain ⟨x, r, e⟩ : ∃ x r, s ++ (w ++ b) = x :: r := by
    cases s with
    | nil => exact absurd rfl hs1
    | cons x r => exact ⟨x, r ++ (w ++ b), rfl⟩
   rw [e] at t1 d1 ⊢
   unfold tailF
   dsimp only
   rw [t1, d1, t2, d2, hb', (sepB_iff s).2 ((sep_iff s).1 hs)]
   simp [hw1]

theorem compF_iff (l : List Nat) : compF l = true ↔ Comp l := by
 unfold compF Comp
 rw [Bool.and_eq_true]
 constructor
 ·rintro ⟨h1, h2⟩
  exact ⟨l.takeWhile low, l.dropWhile low, (List.takeWhile_append_dropWhile).symm, (word_iff _).2 ⟨by simpa using h1, fun y hy => mem_takeWhile hy⟩, tailF_ok _ _ h2⟩
 ·rintro ⟨w, b, rfl, hw, hb⟩
  obtain ⟨hw1, hw2⟩ := (word_iff _).1 hw
  obtain ⟨t2, d2⟩ := takeWhile_all (p := low) (a := w) (b := b) hw2 (fun x r e => tail_head hb e)
  rw [t2, d2]
  exact ⟨by simpa using hw1, tailF_all _ _ (by simp) hb⟩

theorem star_chars {L : List Nat → Prop} {P : Nat → Prop} (hL : ∀ v, L v → ∀ x ∈ v, P x) {l : List Nat} (h : Star L l) : ∀ x ∈ l, P x := by
 induction h with
 | nil => simp
 | cons h _ ih =>
  intro x hx
  rcases List.mem_append.1 hx with hx | hx
  ·exact hL _ h x hx
  ·exact ih x hx

theorem cat_chars {L M : List Nat → Prop} {P : Nat → Prop} (hL : ∀ v, L v → ∀ x ∈ v, P x) (hM : ∀ v, M v → ∀ x ∈ v, P x) {l : List Nat} (h : Cat L M l) : ∀ x ∈ l, P x := by
 obtain ⟨a, b, rfl, ha, hb⟩ := h
 intro x hx
 rcases List.mem_append.1 hx with hx | hx
 ·exact hL _ ha x hx
 ·exact hM _ hb x hx

def Pch (x : Nat) : Prop := (97 ≤ x ∧ x ≤ 122) ∨ (48 ≤ x ∧ x ≤ 57) ∨ x = 46 ∨ x = 95 ∨ x = 45

theorem word_chars {l : List Nat} (h : Word l) : ∀ x ∈ l, Pch x := by
 intro x hx
 have := (low_iff x).1 (((word_iff l).1 h).2 x hx)
 unfold Pch; omega

theorem comp_chars {l : List Nat} (h : Comp l) : ∀ x ∈ l, Pch x :=
 cat_chars (fun _ h => word_chars h) (fun _ h => star_chars (fun _ h => cat_chars (fun v h x hx => by have := (sep_chars h).2 x hx; unfold Pch; omega) (fun _ h => word_chars h) h) h) h

theorem comp_slash {l : List Nat} (h : Comp l) : 47 ∉ l := fun hm => by
 have := comp_chars h 47 hm
 unfold Pch at this; omega

theorem path_iff (l : List Nat) : Path l ↔ ∀ p ∈ pieces 47 l, compF p = true := by
 unfold Path
 rw [sep_pieces (fun v h => comp_slash h)]
 simp only [compF_iff]

theorem path_chars {l : List Nat} (h : Path l) : ∀ x ∈ l, Pch x ∨ x = 47 :=
 cat_chars (fun _ h x hx => .inl (comp_chars h x hx)) (fun _ h => star_chars (fun _ h => cat_chars (fun v h x hx => by
  obtain ⟨y, rfl, hy⟩ := h
  simp [is] at hy hx
  exact .inr (by omega)) (fun _ h x hx => .inl (comp_chars h x hx)) h) h) h


def anh (x : Nat) : Bool := aln x || is 45 x
def hcl (x : Nat) : Bool := hex x || is 58 x
def Label : List Nat → Prop := Cat (One aln) (Alt Nil (Cat (Star (One anh)) (One aln)))
def Names : List Nat → Prop := Cat Label (Star (Cat (One (is 46)) Label))
def Bracket : List Nat → Prop := Cat (One (is 91)) (Cat (Plus (One hcl)) (One (is 93)))
def Host : List Nat → Prop := Alt Names Bracket
def Domain : List Nat → Prop := Cat Host (Alt (Cat (One (is 58)) (Plus (One dig))) Nil)

def LabelIs (l : List Nat) : Prop := AllOf anh l ∧ l.head? ≠ some 45 ∧ l.getLast? ≠ some 45

theorem anh_aln {x : Nat} (h : anh x = true) (hx : x ≠ 45) : aln x = true := by
 simp [anh, is] at h
 rcases h with h | h
 ·exact h
 ·exact absurd h hx

theorem aln_ne {x : Nat} (h : aln x = true) : x ≠ 45 := by
 rintro rfl
 simp [aln, low, dig] at h

theorem aln_anh {x : Nat} (h : aln x = true) : anh x = true := by simp [anh, h]

theorem label_iff (l : List Nat) : Label l ↔ LabelIs l := by
 constructor
 ·rintro ⟨a, b, rfl, ⟨x, rfl, hx⟩, hb⟩
  rcases hb with hb | ⟨m, z, rfl, hm, ⟨y, rfl, hy⟩⟩
  ·have hb : b = [] := hb
   subst hb
   refine ⟨⟨by simp, fun y hy => ?_⟩, ?_, ?_⟩
   ·simp at hy; rw [hy]; exact aln_anh hx
   ·simpa using aln_ne hx
   ·simpa using aln_ne hx
  ·rw [star_one] at hm
   refine ⟨⟨by simp, fun u hu => ?_⟩, ?_, ?_⟩
   ·simp at hu
    rcases hu with rfl | hu | rfl
    ·exact aln_anh hx
    ·exact hm u hu
    ·exact aln_anh hy
   ·simpa using aln_ne hx
   ·rw [← List.append_assoc, List.getLast?_concat]
    simpa using aln_ne hy
 ·rintro ⟨⟨hne, hall⟩, hh, hl⟩
  cases l with
  | nil => exact absurd rfl hne
  | cons x r =>
   have hx : aln x = true := anh_aln (hall x (List.mem_cons_self ..)) (by simpa using hh)
   refine ⟨[x], r, rfl, ⟨x, rfl, hx⟩, ?_⟩
   rcases List.eq_nil_or_concat r with rfl | ⟨m, y, rfl⟩
   ·exact .inl rfl
   ·rw [List.concat_eq_append] at hl hall ⊢
    rw [← List.cons_append, List.getLast?_concat] at hl
    have hy : aln y = true := anh_aln (hall y (by simp)) (by simpa using hl)
    exact .inr ⟨m, [y], rfl, (star_one anh m).2 (fun u hu => hall u (by simp [hu])), ⟨y, rfl, hy⟩⟩

theorem label_chars {l : List Nat} (h : Label l) : ∀ x ∈ l, anh x = true := ((label_iff l).1 h).1.2

theorem anh_bounds {x : Nat} (h : anh x = true) : (97 ≤ x ∧ x ≤ 122) ∨ (48 ≤ x ∧ x ≤ 57) ∨ (65 ≤ x ∧ x ≤ 90) ∨ x = 45 := by
 simp [anh, aln, low, dig, is] at h
 omega

theorem names_iff (l : List Nat) : Names l ↔ ∀ p ∈ pieces 46 l, LabelIs p := by
 unfold Names
 rw [sep_pieces (fun v h hm => by have := anh_bounds (label_chars h 46 hm); omega)]
 simp only [label_iff]

theorem names_chars {l : List Nat} (h : Names l) : ∀ x ∈ l, anh x = true ∨ x = 46 :=
 cat_chars (fun _ h x hx => .inl (label_chars h x hx)) (fun _ h => star_chars (fun _ h => cat_chars (fun v h x hx => by
  obtain ⟨y, rfl, hy⟩ := h
  simp [is] at hy hx
  exact .inr (by omega)) (fun _ h x hx => .inl (label_chars h x hx)) h) h) h

theorem names_ne {l : List Nat} (h : Names l) : ∃ x r, l = x :: r ∧ anh x = true := by
 obtain ⟨a, b, rfl, ⟨u, v, rfl, ⟨x, rfl, hx⟩, _⟩, _⟩ := h
 exact ⟨x, v ++ b, by simp, aln_anh hx⟩

def HostIs (l : List Nat) : Prop :=
 if 2 < l.length ∧ l.head? = some 91 ∧ l.getLast? = some 93 then AllOf hcl (l.drop 1).dropLast else ∀ p ∈ pieces 46 l, LabelIs p

theorem bracket_iff (l : List Nat) : Bracket l ↔ 2 < l.length ∧ l.head? = some 91 ∧ l.getLast? = some 93 ∧ AllOf hcl (l.drop 1).dropLast := by
 constructor
 ·rintro ⟨a, b, rfl, ⟨x, rfl, hx⟩, ⟨m, z, rfl, hm, ⟨y, rfl, hy⟩⟩⟩
  rw [plus_one] at hm
  simp [is] at hx hy
  subst hx; subst hy
  have hl : 0 < m.length := List.length_pos_iff.2 hm.1
  refine ⟨by simp; omega, rfl, ?_, ?_⟩
  ·rw [← List.append_assoc, List.getLast?_concat]
  ·simpa using hm
 ·rintro ⟨hl, hh, hg, ha⟩
  cases l with
  | nil => simp at hl
  | cons x r =>
   simp at hh
   subst hh
   rcases List.eq_nil_or_concat r with rfl | ⟨m, y, rfl⟩
   ·simp at hl
   ·rw [List.concat_eq_append] at hg ha ⊢
    rw [← List.cons_append, List.getLast?_concat] at hg
    simp at hg
    subst hg
    refine ⟨[91], m ++ [93], rfl, ⟨91, rfl, rfl⟩, m, [93], rfl, (plus_one _ _).2 ?_, ⟨93, rfl, rfl⟩⟩
    simpa using ha

theorem host_iff (l : List Nat) : Host l ↔ HostIs l := by
 unfold Host HostIs Alt
 rw [bracket_iff]
 split
 ·rename_i h
  constructor
  ·rintro (hn | hb)
   ·obtain ⟨x, r, rfl, hx⟩ := names_ne hn
    have := h.2.1
    simp at this
    subst this
    have := anh_bounds hx
    omega
   ·exact hb.2.2.2
  ·intro ha; exact .inr ⟨h.1, h.2.1, h.2.2, ha⟩
 ·rename_i h
  constructor
  ·rintro (hn | hb)
   ·exact (names_iff l).1 hn
   ·exact absurd ⟨hb.1, hb.2.1, hb.2.2.1⟩ h
  ·intro ha; exact .inl ((names_iff l).2 ha)

theorem domain_iff (l : List Nat) : Domain l ↔ HostIs l ∨ ∃ a b, l = a ++ 58 :: b ∧ HostIs a ∧ AllOf dig b := by
 constructor
 ·rintro ⟨a, b, rfl, ha, ⟨u, v, rfl, ⟨x, rfl, hx⟩, hv⟩ | hb⟩
  ·simp [is] at hx
   subst hx
   exact .inr ⟨a, v, rfl, (host_iff a).1 ha, (plus_one _ _).1 hv⟩
  ·have hb : b = [] := hb
   subst hb
   rw [List.append_nil]
   exact .inl ((host_iff a).1 ha)
 ·rintro (h | ⟨a, b, rfl, ha, hb⟩)
  ·exact ⟨l, [], by simp, (host_iff l).2 h, .inr rfl⟩
  ·exact ⟨a, 58 :: b, rfl, (host_iff a).2 ha, .inl ⟨[58], b, rfl, ⟨58, rfl, rfl⟩, (plus_one _ _).2 hb⟩⟩

def Dch (x : Nat) : Prop := (97 ≤ x ∧ x ≤ 122) ∨ (48 ≤ x ∧ x ≤ 58) ∨ (65 ≤ x ∧ x ≤ 90) ∨ x = 45 ∨ x = 46 ∨ x = 91 ∨ x = 93

theorem host_chars {l : List Nat} (h : Host l) : ∀ x ∈ l, Dch x := by
 rcases h with h | h
 ·intro x hx
  rcases names_chars h x hx with h | h
  ·have := anh_bounds h; unfold Dch; omega
  ·unfold Dch; omega
 ·refine cat_chars (fun v h x hx => ?_) (fun v h => cat_chars (fun v h x hx => ?_) (fun v h x hx => ?_) h) h
  ·obtain ⟨y, rfl, hy⟩ := h
   simp [is] at hy hx
   unfold Dch; omega
  ·have := ((plus_one _ _).1 h).2 x hx
   simp [hcl, hex, dig, is] at this
   unfold Dch; omega
  ·obtain ⟨y, rfl, hy⟩ := h
   simp [is] at hy hx
   unfold Dch; omega

theorem domain_chars {l : List Nat} (h : Domain l) : ∀ x ∈ l, Dch x := by
 refine cat_chars (fun v h => host_chars h) (fun v h x hx => ?_) h
 rcases h with h | h
 ·refine cat_chars (P := Dch) (fun v h x hx => ?_) (fun v h x hx => ?_) h x hx
  ·obtain ⟨y, rfl, hy⟩ := h
   simp [is] at hy hx
   unfold Dch; omega
  ·have := ((plus_one _ _).1 h).2 x hx
   simp [dig] at this
   unfold Dch; omega
 ·have h : v = [] := h
  rw [h] at hx; cases hx


def tch (x : Nat) : Bool := wrd x || is 46 x || is 45 x
def Upto (L : List Nat → Prop) : Nat → List Nat → Prop
 | 0 => Nil
 | n + 1 => Alt (Cat L (Upto L n)) Nil
def Times (L : List Nat → Prop) : Nat → List Nat → Prop
 | 0 => Nil
 | n + 1 => Cat L (Times L n)
def Tag : List Nat → Prop := Cat (One wrd) (Upto (One tch) 127)

theorem upto_iff (p : Nat → Bool) : ∀ (n : Nat) (l : List Nat), Upto (One p) n l ↔ l.length ≤ n ∧ ∀ x ∈ l, p x = true
 | 0, l => by
  constructor
  ·intro h
   have h : l = [] := h
   subst h; simp
  ·rintro ⟨h, _⟩
   exact List.length_eq_zero_iff.1 (by omega)
 | n + 1, l => by
  constructor
  ·rintro (⟨a, b, rfl, ⟨x, rfl, hx⟩, hb⟩ | h)
   ·obtain ⟨h1, h2⟩ := (upto_iff p n b).1 hb
    refine ⟨by simp; omega, fun y hy => ?_⟩
    simp at hy
    rcases hy with rfl | hy
    ·exact hx
    ·exact h2 y hy
   ·have h : l = [] := h
    subst h; simp
  ·rintro ⟨h1, h2⟩
   cases l with
   | nil => exact .inr rfl
   | cons x r => exact .inl ⟨[x], r, rfl, ⟨x, rfl, h2 x (List.mem_cons_self ..)⟩, (upto_iff p n r).2 ⟨by simp at h1; omega, fun y hy => h2 y (List.mem_cons_of_mem _ hy)⟩⟩

def TagIs (l : List Nat) : Prop := l.length ≤ 128 ∧ AllOf tch l ∧ ∃ x, l.head? = some x ∧ wrd x = true

theorem tag_iff (l : List Nat) : Tag l ↔ TagIs l := by
 constructor
 ·rintro ⟨a, b, rfl, ⟨x, rfl, hx⟩, hb⟩
  obtain ⟨h1, h2⟩ := (upto_iff _ _ b).1 hb
  refine ⟨by simp; omega, ⟨by simp, fun y hy => ?_⟩, x, rfl, hx⟩
  simp at hy
  rcases hy with rfl | hy
  ·simp [tch, hx]
  ·exact h2 y hy
 ·rintro ⟨hl, ⟨hne, ha⟩, x, hh, hx⟩
  cases l with
  | nil => exact absurd rfl hne
  | cons y r =>
   simp at hh
   subst hh
   exact ⟨[y], r, rfl, ⟨y, rfl, hx⟩, (upto_iff _ _ r).2 ⟨by simp at hl; omega, fun u hu => ha u (List.mem_cons_of_mem _ hu)⟩⟩

theorem tag_chars {l : List Nat} (h : Tag l) : ∀ x ∈ l, tch x = true := ((tag_iff l).1 h).2.1.2

theorem times_iff (p : Nat → Bool) : ∀ (n : Nat) (l : List Nat), Times (One p) n l ↔ l.length = n ∧ ∀ x ∈ l, p x = true
 | 0, l => by
  constructor
  ·intro h
   have h : l = [] := h
   subst h; simp
  ·rintro ⟨h, _⟩
   exact List.length_eq_zero_iff.1 h
 | n + 1, l => by
  constructor
  ·rintro ⟨a, b, rfl, ⟨x, rfl, hx⟩, hb⟩
   obtain ⟨h1, h2⟩ := (times_iff p n b).1 hb
   refine ⟨by simp; omega, fun y hy => ?_⟩
   simp at hy
   rcases hy with rfl | hy
   ·exact hx
   ·exact h2 y hy
  ·rintro ⟨h1, h2⟩
   cases l with
   | nil => simp at h1
   | cons x r => exact ⟨[x], r, rfl, ⟨x, rfl, h2 x (List.mem_cons_self ..)⟩, (times_iff p n r).2 ⟨by simp at h1; omega, fun y hy => h2 y (List.mem_cons_of_mem _ hy)⟩⟩

def ltr (x : Nat) : Bool := aln x && !dig x
def asp (x : Nat) : Bool := is 43 x || is 46 x || is 45 x || is 95 x
def AlgW : List Nat → Prop := Cat (One ltr) (Star (One aln))
def Alg : List Nat → Prop := Cat AlgW (Star (Cat (One asp) AlgW))

def algF : Bool → List Nat → Bool
 | b, [] => !b
 | b, x :: r => if asp x then (if b then false else algF true r) else if (b && (!aln x || dig x)) || !aln x then false else algF false r

theorem algF_ok : ∀ (l : List Nat), (algF true l = true → Alg l) ∧ (algF false l = true → Cat (Star (One aln)) (Star (Cat (One asp) AlgW)) l)
 | [] => ⟨fun h => by simp [algF] at h, fun _ => ⟨[], [], rfl, .nil, .nil⟩⟩
 | x :: r => by
  obtain ⟨i1, i2⟩ := algF_ok r
  constructor
  ·intro h
   unfold algF at h
   by_cases ha : asp x = true
   ·simp [ha] at h
   ·simp only [ha, Bool.false_eq_true, if_false] at h
    split at h
    ·cases h
    ·rename_i hc
     have hx : ltr x = true := by
      simp only [Bool.true_and, Bool.or_eq_true, not_or] at hc
      simp [ltr]
      simpa using hc.1
     obtain ⟨a, b, e, hA, hB⟩ := i2 h
     exact ⟨x :: a, b, by rw [e]; rfl, ⟨[x], a, rfl, ⟨x, rfl, hx⟩, hA⟩, hB⟩
  ·intro h
   unfold algF at h
   by_cases ha : asp x = true
   ·simp only [ha, if_true, Bool.false_eq_true, if_false] at h
    obtain ⟨a, b, e, hA, hB⟩ := i1 h
    exact ⟨[], x :: r, rfl, .nil, by rw [e]; exact .cons (a := x :: a) (b := b) ⟨[x], a, rfl, ⟨x, rfl, ha⟩, hA⟩ hB⟩
   ·simp only [ha, Bool.false_eq_true, if_false, Bool.false_and, Bool.false_or] at h
    split at h
    ·cases h
    ·rename_i hc
     have hx : aln x = true := by simpa using hc
     obtain ⟨a, b, e, hA, hB⟩ := i2 h
     exact ⟨x :: a, b, by rw [e]; rfl, .cons (a := [x]) ⟨x, rfl, hx⟩ hA, hB⟩

end Go.Rx
namespace Go.Proofs.YtkbmigfkclnlaaaGreatDoor
open Go

def Exit.jumps (J : Nat → Act → World → Prop) (Q : Exit → Act → World → Prop) : Exit → Act → World → Prop
 | .goto l, a, w => J l a w
 | e, a, w => Q e a w

section
variable {P : Program} {a : Act} {w : World} {Q : Exit → Act → World → Prop}

theorem wp_scope_labels {c : Code} (J : Nat → Act → World → Prop) (μ : Nat → Act → World → Nat)
  (first : c.wp P (Exit.jumps J Q) a w)
  (pass : ∀ l a w, J l a w → ∃ rest, findLabel c l = some rest ∧ rest.wp P (Exit.jumps (fun l' a' w' => J l' a' w' ∧ μ l' a' w' < μ l a w) Q) a w) : (Code.scope c).wp P Q a w := by
 intro b k cs
 have hg : ∀ l rest, findLabel c l = some rest → gotoIn l (.inScope c :: k) = some (.code rest :: .inScope c :: k) := fun l rest hf => by simp [gotoIn, hf]
 have key : ∀ n l a w, μ l a w = n → J l a w → ∃ rest, findLabel c l = some rest ∧ ∃ e a' w', Q e a' w' ∧ Arrives P (lone (b.at a (.code rest :: .inScope c :: k)) cs w) b k cs e a' w' := by
  intro n
  induction n using Nat.strongRecOn with
  | _ n ih =>
   intro l a w hn hJ
   obtain ⟨rest, hf, hwp⟩ := pass l a w hJ
   refine ⟨rest, hf, ?_⟩
   obtain ⟨e, a₁, w₁, hq, harr⟩ := hwp b (.inScope c :: k) cs
   cases e with
   | normal => exact ⟨.normal, a₁, w₁, hq, Steps.trans harr (.one step_inScope)⟩
   | exit id => exact ⟨.exit id, a₁, w₁, hq, fun k' hk => harr k' (by simp [exitTo, hk])⟩
   | goto l' =>
    obtain ⟨hJ', hlt⟩ := hq
    obtain ⟨rest', hf', e₂, a₂, w₂, hq₂, harr₂⟩ := ih _ (by omega) l' a₁ w₁ rfl hJ'
    exact ⟨e₂, a₂, w₂, hq₂, .of_steps (harr _ (hg l' rest' hf')) harr₂⟩
   | ret => exact ⟨_, a₁, w₁, hq, harr⟩
   | panic ch => exact ⟨_, a₁, w₁, hq, harr⟩
   | outgrown => exact ⟨_, a₁, w₁, hq, harr⟩
 obtain ⟨e, a₁, w₁, hq, harr⟩ := first b (.inScope c :: k) cs
 cases e with
 | normal => exact ⟨.normal, a₁, w₁, hq, .head step_scope (Steps.trans harr (.one step_inScope))⟩
 | exit id => exact ⟨.exit id, a₁, w₁, hq, fun k' hk => .head step_scope (harr k' (by simp [exitTo, hk]))⟩
 | goto l' =>
  obtain ⟨rest', hf', e₂, a₂, w₂, hq₂, harr₂⟩ := key _ l' a₁ w₁ rfl hq
  exact ⟨e₂, a₂, w₂, hq₂, .of_steps (.head step_scope (harr _ (hg l' rest' hf'))) harr₂⟩
 | ret => exact ⟨_, a₁, w₁, hq, .of_steps (.one step_scope) harr⟩
 | panic ch => exact ⟨_, a₁, w₁, hq, .of_steps (.one step_scope) harr⟩
 | outgrown => exact ⟨_, a₁, w₁, hq, .of_steps (.one step_scope) harr⟩
end
end Go.Proofs.YtkbmigfkclnlaaaGreatDoor
namespace Go.Proofs.YtkbmigfkclnlaaaGreatDoor
open Go Go.RowKit

structure Ext (w : World) where
 now : World
 below : Below w.heap.size w now

theorem Ext.cell {w : World} (x : Ext w) (b o : Nat) (h : b < w.heap.size) : x.now.cell? ⟨b, o, none⟩ = w.cell? ⟨b, o, none⟩ := x.below.cell (p := ⟨b, o, none⟩) h
theorem Ext.frozen {w : World} (x : Ext w) (b o : Nat) (h : b < w.heap.size) : x.now.frozen? ⟨b, o, none⟩ = w.frozen? ⟨b, o, none⟩ := x.below.frozen (p := ⟨b, o, none⟩) h
theorem Ext.lt {w : World} (x : Ext w) (b : Nat) (h : b < w.heap.size) : b < x.now.heap.size := Nat.lt_of_lt_of_le h x.below.size
theorem Ext.le {w : World} (x : Ext w) : w.heap.size ≤ x.now.heap.size := x.below.size
theorem Ext.block {w : World} (x : Ext w) (b : Nat) (h : b < w.heap.size) : x.now.heap[b]? = w.heap[b]? := x.below.block b h

def Ext.refl (w : World) : Ext w := ⟨w, Below.refl _ _⟩
def Ext.drewn (w : World) : Ext w := ⟨w.drew, (Below.refl _ _).drew⟩
def Ext.trans {w : World} (x : Ext w) (y : Ext x.now) : Ext w := ⟨y.now, x.below.trans (y.below.mono x.below.size)⟩

theorem Ext.lt_add {w : World} (x : Ext w) (b k : Nat) (h : b < w.heap.size) : b < x.now.heap.size + k := Nat.lt_of_lt_of_le (x.lt b h) (Nat.le_add_right _ _)
theorem Ext.cell2 {w : World} (x : Ext w) (y : Ext x.now) (b o : Nat) (h : b < w.heap.size) : y.now.cell? ⟨b, o, none⟩ = w.cell? ⟨b, o, none⟩ := (x.trans y).cell b o h
theorem Ext.frozen2 {w : World} (x : Ext w) (y : Ext x.now) (b o : Nat) (h : b < w.heap.size) : y.now.frozen? ⟨b, o, none⟩ = w.frozen? ⟨b, o, none⟩ := (x.trans y).frozen b o h
instance Ext.nonempty (w : World) : Nonempty (Ext w) := ⟨Ext.refl w⟩

def Ext.one (w : World) (o : Obj) : Ext w := ⟨w.alloc o, (Below.refl _ _).alloc (Nat.le_refl _) _⟩
theorem Ext.here (w : World) : ∃ y : Ext w, w = y.now := ⟨Ext.refl w, rfl⟩
theorem Ext.alloc1 (w : World) (o : Obj) : ∃ y : Ext w, w.alloc o = y.now := ⟨Ext.one w o, rfl⟩
theorem Ext.alloc2 (w : World) (o o2 : Obj) : ∃ y : Ext w, (w.alloc o).alloc o2 = y.now := ⟨(Ext.one w o).trans (Ext.one _ o2), rfl⟩
theorem Ext.via {w : World} {o : Obj} (x : Ext (w.alloc o)) : ∃ y : Ext w, x.now = y.now := ⟨(Ext.one w o).trans x, rfl⟩
theorem Ext.both {w : World} (x : Ext w) (y : Ext x.now) : ∃ z : Ext w, y.now = z.now := ⟨x.trans y, rfl⟩
theorem Ext.viab {w : World} {o : Obj} (x : Ext (w.alloc o)) (y : Ext x.now) : ∃ z : Ext w, y.now = z.now := ⟨((Ext.one w o).trans x).trans y, rfl⟩

theorem Ext.of {w w' : World} (h : Below w.heap.size w w') : ∃ x : Ext w, w' = x.now := ⟨⟨w', h⟩, rfl⟩

section
variable {P : Program} {ops : Array Oper} {md : Region.Mode} {C : World → Prop}

def wpAnyLQ (P : Program) (md : Region.Mode) (ops : Array Oper) (C : World → Prop) (n : Nat) (L : Array Bool → Act → Prop) : Nat → Array Bool → Act → Prop
 | 0, listed, a => L listed a
 | f + 1, listed, a =>
  Region.ready md ops listed ≠ [] ∧ ∀ i ∈ Region.ready md ops listed, i < n ∧ qOp P ops C i (wpAnyLQ P md ops C n L f (listed.setIfInBounds i true)) a

theorem wpAny_of_headQ {n g : Nat} {L : Array Bool → Act → Prop} {Q' : Exit → Act → World → Prop} (hL : ∀ listed a w, C w → L listed a → wpAny P md ops Q' g listed a w) :
  ∀ (f : Nat) (listed : Array Bool) (a : Act) (w : World), C w → wpAnyLQ P md ops C n L f listed a → wpAny P md ops Q' (f + g) listed a w
 | 0, listed, a, w, hw, h => by rw [Nat.zero_add]; exact hL _ _ _ hw h
 | f + 1, listed, a, w, hw, h => by
  rw [show f + 1 + g = (f + g) + 1 by omega]
  exact ⟨fun h0 => absurd h0 h.1, fun i hi => wpOp_of_qOp hw (fun a' w' hw' h' => wpAny_of_headQ hL f _ a' w' hw' h') (h.2 i hi).2⟩

theorem wpAnyLQ_first {n i : Nat} {oi : Oper} {v : Value} {L : Array Bool → Act → Prop} (hi : ops[i]? = some oi) (hsel : ∀ (j : Nat) (o : Oper) cs b, ops[j]? = some o → o.op ≠ .select cs b)
  (hs : Region.sinkB md ops n = true) (hc : Region.chainB md ops n = true) (hn : n < ops.size) (hin : i < n)
  (hdone : ∀ listed a, L listed a → ∀ j ∈ Region.ready md ops listed, n ≤ j) :
  ∀ (f : Nat) (listed : Array Bool) (a : Act), HeadInv md ops n listed →
   (∀ j oj, ops[j]? = some oj → j ≠ i → listed.getD j true = false → (∀ e ∈ oj.after, Region.binds md e = true → e.on ≠ i) → oi.apart ops oj = true) →
   i ∈ Region.ready md ops listed → YieldsIn P ops C oi v a →
   wpAnyLQ P md ops C n L f (listed.setIfInBounds i true) (a.put oi.dst v) → wpAnyLQ P md ops C n L (f + 1) listed a := by
 intro f
 induction f with
 | zero =>
  intro listed a inv _ hr hy H
  have hun := (mem_ready.1 hr).1
  refine ⟨fun h => (by rw [h] at hr; cases hr), fun j hj => ?_⟩
  have hjn : j < n := by
   rcases Nat.lt_or_ge j n with h | h
   ·exact h
   ·exact absurd hj (tail_waits hs hc hn inv _ i rfl hin hun j h)
  refine ⟨hjn, ?_⟩
  by_cases hji : j = i
  ·subst hji; exact hy.qOp hi H
  ·have := hdone _ _ H j (ready_mono hj hji)
   omega
 | succ f ih =>
  intro listed a inv hfree hr hy H
  have hun := (mem_ready.1 hr).1
  refine ⟨fun h => (by rw [h] at hr; cases hr), fun j hj => ?_⟩
  have hjn : j < n := by
   rcases Nat.lt_or_ge j n with h | h
   ·exact h
   ·exact absurd hj (tail_waits hs hc hn inv _ i rfl hin hun j h)
  refine ⟨hjn, ?_⟩
  by_cases hji : j = i
  ·subst hji; exact hy.qOp hi H
  ·have h1 := (H.2 j (ready_mono hj hji)).2
   obtain ⟨hjun, oj, hoj, hall⟩ := mem_ready.1 hj
   have hnot : ∀ e ∈ oj.after, Region.binds md e = true → e.on ≠ i := fun e he hb heq => by
    have h1 := hall e he hb
    rw [heq, getD_both hun] at h1
    cases h1
   have h2 := qOp_put hoj (hfree j oj hoj hji hjun hnot) (fun cs b => hsel i oi cs b hi) (fun cs b => hsel j oj cs b hoj) hy h1
   have hfree' : ∀ k ok, ops[k]? = some ok → k ≠ i → (listed.setIfInBounds j true).getD k true = false →
     (∀ e ∈ ok.after, Region.binds md e = true → e.on ≠ i) → oi.apart ops ok = true := fun k ok hk hki hun hno => by
    refine hfree k ok hk hki ?_ hno
    by_cases hjk : j = k
    ·subst hjk; exact hjun
    ·rw [getD_set_ne true hjk] at hun; exact hun
   refine qOp_mono (fun a' h3 => ih (listed.setIfInBounds j true) a' (inv.set hj hjn) hfree' (ready_mono hr (Ne.symm hji)) h3.1 ?_) h2
   rw [Array.setIfInBounds_comm _ _ hji]
   exact h3.2

theorem wpAnyLQ_lex {n g : Nat} {Lq : Act → Prop} (hsel : Region.noSelect ops = true) (hs : Region.sinkB md ops n = true) (hc : Region.chainB md ops n = true) (hn : n < ops.size) :
  ∀ (l : List Oper) (k : Nat) (listed : Array Bool) (a : Act), (∀ j, j < l.length → l[j]? = ops[k + j]?) → k + l.length = n → HeadInv md ops n listed →
  Region.lexHead md ops g l.length k listed = true → wpQuiet P ops C Lq l a →
  wpAnyLQ P md ops C n (fun listed' a' => Region.seqB md ops g n listed' = true ∧ Lq a') l.length listed a
 | [], k, listed, a, _, hk, _, hB, h => by
  have : k = n := by simpa using hk
  subst this
  exact ⟨by simpa [Region.lexHead] using hB, h⟩
 | o :: l, k, listed, a, hl, hk, inv, hB, h => by
  have h0 : ops[k]? = some o := by simpa using (hl 0 (by simp)).symm
  simp only [List.length_cons, Region.lexHead, Bool.and_eq_true] at hB
  obtain ⟨⟨hr, hf⟩, hB'⟩ := hB
  have hkn : k < n := by simp only [List.length_cons] at hk; omega
  have hr' : k ∈ Region.ready md ops listed := by simpa using hr
  have hst : qOp P ops C k (wpQuiet P ops C Lq l) a := by unfold qOp; simp only [h0]; exact h
  obtain ⟨v, hy, hK⟩ := yieldsIn_of_qOp h0 hst
  exact wpAnyLQ_first h0 (Region.noSelect_spec hsel) hs hc hn hkn (fun listed' a' hL => seqB_ready hL.1) l.length listed a inv (Region.free_spec h0 hf) hr' hy
   (wpAnyLQ_lex hsel hs hc hn l (k + 1) _ _ (fun j hj => by have := hl (j + 1) (by simp; omega); simpa [Nat.add_assoc, Nat.add_comm 1 j] using this) (by simp only [List.length_cons] at hk; omega) (inv.set hr' hkn) hB' hK)

theorem wp_region_quiet_tail {id : Nat} {Q : Exit → Act → World → Prop} {a : Act} {w : World} {l : List Oper} (n : Nat) (hm : P.follows .mixedOrders = true) (hB : Region.lexTailB .any l.toArray n = true)
  (hC : C { w with drawn := w.drawn + 1 })
  (h : wpQuiet P l.toArray C (fun a' => ∀ w', C w' → wpList P l.toArray Q (l.drop n) a' w') (l.take n) a) : (Code.region id l.toArray true).wp P Q a w := by
 simp only [Region.lexTailB, Bool.and_eq_true, decide_eq_true_eq] at hB
 obtain ⟨⟨⟨⟨hsel, hn⟩, hs⟩, hc⟩, hlex⟩ := hB
 have hn' : n < l.length := by simpa using hn
 have htl : (l.take n).length = n := by simp; omega
 have hdl : (l.drop n).length = l.toArray.size - n := by simp
 have inv0 : HeadInv .any l.toArray n (Array.replicate l.toArray.size false) :=
  ⟨by simp, fun j oj _ hl => (by rw [getD_replicate_false] at hl; cases hl), fun t _ ht => getD_in (by simpa using ht) (getD_replicate_false _ _)⟩
 have H := wpAnyLQ_lex (md := .any) (g := l.toArray.size - n) hsel hs hc hn (l.take n) 0 _ a (fun j hj => by
  have hj' : j < n := by rw [htl] at hj; exact hj
  simp [hj']) (by simpa using htl) inv0 (by rw [htl]; exact hlex) h
 refine wp_region_any hm ?_
 have := wpAny_of_headQ (Q' := Q) (g := l.toArray.size - n) (fun listed a' w' hw' hL => by
  have := wpAny_of_seq (md := .any) (Q' := Q) (l.drop n) n listed a' w' (fun j => by simp [List.getElem?_drop]) (by rw [hdl]; exact hL.1) (hL.2 w' hw')
  rwa [hdl] at this) _ _ _ _ hC H
 rw [htl, show n + (l.toArray.size - n) = l.toArray.size by omega] at this
 exact this

abbrev ExtC (w : World) : World → Prop := fun w' => ∃ x : Ext w, w' = x.now

theorem wp_region_ext {id : Nat} {Q : Exit → Act → World → Prop} {a : Act} {w : World} {l : List Oper} (hm : P.follows .mixedOrders = true) (hB : Region.lexB .any l.toArray = true)
  (h : wpQuiet P l.toArray (fun w' => ∃ x : Ext w, w' = x.now) (fun a' => ∀ w', (∃ x : Ext w, w' = x.now) → Q .normal a' w') l a) : (Code.region id l.toArray true).wp P Q a w :=
 wp_region_quiet (C := fun w' => ∃ x : Ext w, w' = x.now) hm hB ⟨Ext.drewn w, rfl⟩ (by simpa using h)

theorem wp_region_ext_tail {id : Nat} {Q : Exit → Act → World → Prop} {a : Act} {w : World} {l : List Oper} (n : Nat) (hm : P.follows .mixedOrders = true) (hB : Region.lexTailB .any l.toArray n = true)
  (h : wpQuiet P l.toArray (fun w' => ∃ x : Ext w, w' = x.now) (fun a' => ∀ w', (∃ x : Ext w, w' = x.now) → wpList P l.toArray Q (l.drop n) a' w') (l.take n) a) : (Code.region id l.toArray true).wp P Q a w :=
 wp_region_quiet_tail (C := fun w' => ∃ x : Ext w, w' = x.now) n hm hB ⟨Ext.drewn w, rfl⟩ h

theorem calls_ext {f : FuncId} {args : Array Value} {w : World} {x : Ext w} {v : Value}
  (h : Calls P f args x.now fun e w' => e = .returned v ∧ ∃ y : Ext x.now, w' = y.now) : Calls P f args x.now fun e w'' => e = .returned v ∧ ∃ y : Ext w, w'' = y.now :=
 h.mono fun _ _ ⟨he, y, hy⟩ => ⟨he, x.trans y, hy⟩

end
end Go.Proofs.YtkbmigfkclnlaaaGreatDoor
namespace Go.Proofs.YtkbmigfkclnlaaaGreatDoor
open Go Go.RowKit

section
variable {P : Program} {ops : Array Oper} {md : Region.Mode} {C : World → Prop} {Q : Exit → Act → World → Prop}

def wpAnyT (P : Program) (md : Region.Mode) (ops : Array Oper) (Q : Exit → Act → World → Prop) (C : World → Prop) (n : Nat) (L : Array Bool → Act → World → Prop) : Nat → Array Bool → Act → World → Prop
 | 0, listed, a, w => C w ∧ L listed a w
 | f + 1, listed, a, w =>
  C w ∧ Region.ready md ops listed ≠ [] ∧ ∀ i ∈ Region.ready md ops listed, i < n ∧ wpOp P ops Q i (wpAnyT P md ops Q C n L f (listed.setIfInBounds i true)) a w

theorem wpAny_of_headT {n g : Nat} {L : Array Bool → Act → World → Prop} (hL : ∀ listed a w, L listed a w → wpAny P md ops Q g listed a w) :
  ∀ (f : Nat) (listed : Array Bool) (a : Act) (w : World), wpAnyT P md ops Q C n L f listed a w → wpAny P md ops Q (f + g) listed a w
 | 0, listed, a, w, h => by rw [Nat.zero_add]; exact hL _ _ _ h.2
 | f + 1, listed, a, w, h => by
  rw [show f + 1 + g = (f + g) + 1 by omega]
  exact ⟨fun h0 => absurd h0 h.2.1, fun i hi => wpOp_mono (fun a' w' h' => wpAny_of_headT hL f _ a' w' h') (h.2.2 i hi).2⟩

theorem wpAnyT_first {n i : Nat} {oi : Oper} {v : Value} {L : Array Bool → Act → World → Prop} (hi : ops[i]? = some oi) (hsel : ∀ (j : Nat) (o : Oper) cs b, ops[j]? = some o → o.op ≠ .select cs b)
  (hQ : ∀ c a w, Q (.panic c) (a.put oi.dst v) w → Q (.panic c) a w)
  (hs : Region.sinkB md ops n = true) (hc : Region.chainB md ops n = true) (hn : n < ops.size) (hin : i < n)
  (hdone : ∀ listed a w, L listed a w → ∀ j ∈ Region.ready md ops listed, n ≤ j) :
  ∀ (f : Nat) (listed : Array Bool) (a : Act) (w : World), HeadInv md ops n listed →
   (∀ j oj, ops[j]? = some oj → j ≠ i → listed.getD j true = false → (∀ e ∈ oj.after, Region.binds md e = true → e.on ≠ i) → oi.apart ops oj = true) →
   i ∈ Region.ready md ops listed → YieldsIf P ops C oi v a → C w →
   wpAnyT P md ops Q C n L f (listed.setIfInBounds i true) (a.put oi.dst v) w → wpAnyT P md ops Q C n L (f + 1) listed a w := by
 intro f
 induction f with
 | zero =>
  intro listed a w inv _ hr hy hC H
  have hun := (mem_ready.1 hr).1
  refine ⟨hC, fun h => (by rw [h] at hr; cases hr), fun j hj => ?_⟩
  have hjn : j < n := by
   rcases Nat.lt_or_ge j n with h | h
   ·exact h
   ·exact absurd hj (tail_waits hs hc hn inv _ i rfl hin hun j h)
  refine ⟨hjn, ?_⟩
  by_cases hji : j = i
  ·subst hji; exact hy.wpOp hi hC H
  ·have := hdone _ _ _ H.2 j (ready_mono hj hji)
   omega
 | succ f ih =>
  intro listed a w inv hfree hr hy hC H
  have hun := (mem_ready.1 hr).1
  refine ⟨hC, fun h => (by rw [h] at hr; cases hr), fun j hj => ?_⟩
  have hjn : j < n := by
   rcases Nat.lt_or_ge j n with h | h
   ·exact h
   ·exact absurd hj (tail_waits hs hc hn inv _ i rfl hin hun j h)
  refine ⟨hjn, ?_⟩
  by_cases hji : j = i
  ·subst hji; exact hy.wpOp hi hC H
  ·have h1 := (H.2.2 j (ready_mono hj hji)).2
   obtain ⟨hjun, oj, hoj, hall⟩ := mem_ready.1 hj
   have hnot : ∀ e ∈ oj.after, Region.binds md e = true → e.on ≠ i := fun e he hb heq => by
    have h1 := hall e he hb
    rw [heq, getD_both hun] at h1
    cases h1
   have h2 := wpOp_putIf hoj (hfree j oj hoj hji hjun hnot) (fun cs b => hsel i oi cs b hi) (fun cs b => hsel j oj cs b hoj) hQ hy h1
   have hfree' : ∀ k ok, ops[k]? = some ok → k ≠ i → (listed.setIfInBounds j true).getD k true = false →
     (∀ e ∈ ok.after, Region.binds md e = true → e.on ≠ i) → oi.apart ops ok = true := fun k ok hk hki hun hno => by
    refine hfree k ok hk hki ?_ hno
    by_cases hjk : j = k
    ·subst hjk; exact hjun
    ·rw [getD_set_ne true hjk] at hun; exact hun
   refine wpOp_mono (fun a' w' h3 => ih (listed.setIfInBounds j true) a' w' (inv.set hj hjn) hfree' (ready_mono hr (Ne.symm hji)) h3.1 ?_ ?_) h2
   ·cases f with
    | zero => exact h3.2.1
    | succ f => exact h3.2.1
   ·rw [Array.setIfInBounds_comm _ _ hji]
    exact h3.2

def readUpon (w : World) (v : Value) : Result Next → Prop
 | .ok (.value u) w' => w' = w ∧ u = v
 | _ => False

def readAt (P : Program) (o : Oper) (a : Act) (w : World) (v : Value) : Prop := readUpon w v ((execOp a.eval o).run P w)

theorem readAt_run {o : Oper} {a : Act} {w : World} {v : Value} (h : readAt P o a w v) : (execOp a.eval o).run P w = .ok (.value v) w := by
 unfold readAt at h
 generalize (execOp a.eval o).run P w = r at *
 cases r with
 | ok x w' => cases x <;> simp only [readUpon] at h; rw [h.1, h.2]
 | halt x w' => simp only [readUpon] at h

def wpPlan (P : Program) (ops : Array Oper) (C : World → Prop) (Q : Exit → Act → World → Prop) (L : Act → World → Prop) : List (Nat × Bool) → Act → World → Prop
 | [], a, w => L a w
 | (i, false) :: r, a, w =>
  match ops[i]? with
  | none => False
  | some o => if Region.wanted o (yielded ops a.tmps) then ∃ v, (∀ w, C w → readAt P o a w v) ∧ wpPlan P ops C Q L r (a.put o.dst v) w else wpPlan P ops C Q L r (a.put o.dst undef) w
 | (i, true) :: r, a, w =>
  match ops[i]? with
  | none => False
  | some o => if Region.wanted o (yielded ops a.tmps) then o.wp P a w (fun a' w' => C w' ∧ wpPlan P ops C Q L r a' w') Q else wpPlan P ops C Q L r (a.put o.dst undef) w

theorem plan_read {L : Act → World → Prop} {i : Nat} {r : List (Nat × Bool)} {a : Act} {w : World} {o : Oper} (ho : ops[i]? = some o)
  (h : ∀ K : Act → Prop, (∀ a, wpPlan P ops C Q L r a w → K a) → if Region.wanted o (yielded ops a.tmps) then ∃ v, (∀ w, C w → readAt P o a w v) ∧ K (a.put o.dst v) else K (a.put o.dst undef)) :
  wpPlan P ops C Q L ((i, false) :: r) a w := by
 unfold wpPlan
 simp only [ho]
 exact h _ (fun _ h => h)

theorem plan_step {L : Act → World → Prop} {i : Nat} {r : List (Nat × Bool)} {a : Act} {w : World} {o : Oper} (ho : ops[i]? = some o)
  (h : ∀ K : Act → World → Prop, (∀ a w, C w → wpPlan P ops C Q L r a w → K a w) → if Region.wanted o (yielded ops a.tmps) then o.wp P a w K Q else C w ∧ wpPlan P ops C Q L r (a.put o.dst undef) w) :
  wpPlan P ops C Q L ((i, true) :: r) a w := by
 unfold wpPlan
 simp only [ho]
 have := h (fun a' w' => C w' ∧ wpPlan P ops C Q L r a' w') (fun _ _ h1 h2 => ⟨h1, h2⟩)
 split
 ·rename_i hw; simpa [hw] using this
 ·rename_i hw; simp only [hw] at this; exact this.2

theorem plan_nil {L : Act → World → Prop} {a : Act} {w : World} (h : L a w) : wpPlan P ops C Q L [] a w := h

def planB (md : Region.Mode) (ops : Array Oper) (n g : Nat) : List (Nat × Bool) → Array Bool → Bool
 | [], listed => Region.seqB md ops g n listed
 | (i, false) :: r, listed => decide (i < n) && (Region.ready md ops listed).contains i && Region.free md ops listed i && planB md ops n g r (listed.setIfInBounds i true)
 | (i, true) :: r, listed => decide (i < n) && decide (Region.ready md ops listed = [i]) && planB md ops n g r (listed.setIfInBounds i true)

def planOk (md : Region.Mode) (ops : Array Oper) (n : Nat) (plan : List (Nat × Bool)) : Bool :=
 Region.noSelect ops && decide (n < ops.size) && decide (plan.length = n) && Region.sinkB md ops n && Region.chainB md ops n && planB md ops n (ops.size - n) plan (Array.replicate ops.size false)

theorem wpAnyT_plan {n g : Nat} {L : Act → World → Prop} (hsel : Region.noSelect ops = true) (hQ : ∀ c a (d : Option Tmp) (v : Value) w, Q (.panic c) (a.put d v) w → Q (.panic c) a w)
  (hs : Region.sinkB md ops n = true) (hc : Region.chainB md ops n = true) (hn : n < ops.size) :
  ∀ (plan : List (Nat × Bool)) (listed : Array Bool) (a : Act) (w : World), HeadInv md ops n listed → planB md ops n g plan listed = true → C w → wpPlan P ops C Q L plan a w →
   wpAnyT P md ops Q C n (fun listed' a' w' => Region.seqB md ops g n listed' = true ∧ L a' w') plan.length listed a w
 | [], listed, a, w, _, hB, hC, h => ⟨hC, by simpa [planB] using hB, h⟩
 | (i, false) :: r, listed, a, w, inv, hB, hC, h => by
  simp only [planB, Bool.and_eq_true, decide_eq_true_eq] at hB
  obtain ⟨⟨⟨hin, hr⟩, hf⟩, hB'⟩ := hB
  have hr' : i ∈ Region.ready md ops listed := by simpa using hr
  unfold wpPlan at h
  cases hi : ops[i]? with
  | none => simp only [hi] at h
  | some o =>
   simp only [hi] at h
   have hex : ∃ v, YieldsIf P ops C o v a ∧ wpPlan P ops C Q L r (a.put o.dst v) w := by
    by_cases hw : Region.wanted o (yielded ops a.tmps) = true
    ·simp only [hw, if_true] at h
     obtain ⟨v, h1, h2⟩ := h
     exact ⟨v, .inl ⟨hw, fun w' hw' => readAt_run (h1 w' hw')⟩, h2⟩
    ·simp only [hw] at h
     exact ⟨undef, .inr ⟨by simpa using hw, rfl⟩, h⟩
   obtain ⟨v, hy, hK⟩ := hex
   exact wpAnyT_first hi (Region.noSelect_spec hsel) (fun c a w => hQ c a _ _ w) hs hc hn hin (fun listed' a' w' hL => seqB_ready hL.1) r.length listed a w inv (Region.free_spec hi hf) hr' hy hC
    (wpAnyT_plan hsel hQ hs hc hn r _ _ _ (inv.set hr' hin) hB' hC hK)
 | (i, true) :: r, listed, a, w, inv, hB, hC, h => by
  simp only [planB, Bool.and_eq_true, decide_eq_true_eq] at hB
  obtain ⟨⟨hin, hr⟩, hB'⟩ := hB
  have hr' : i ∈ Region.ready md ops listed := by rw [hr]; simp
  refine ⟨hC, fun h0 => (by rw [h0] at hr; cases hr), fun j hj => ?_⟩
  rw [hr] at hj
  have hji : j = i := by simpa using hj
  subst hji
  refine ⟨hin, ?_⟩
  unfold wpPlan at h
  unfold wpOp
  cases hi : ops[j]? with
  | none => simp only [hi] at h
  | some o =>
   simp only [hi] at h ⊢
   split
   ·rename_i hw
    simp only [hw, if_true] at h
    refine .inl (Oper.wp_mono (fun a' w' h' => ?_) h)
    exact wpAnyT_plan hsel hQ hs hc hn r _ _ _ (inv.set hr' hin) hB' h'.1 h'.2
   ·rename_i hw
    simp only [hw] at h
    exact wpAnyT_plan hsel hQ hs hc hn r _ _ _ (inv.set hr' hin) hB' hC h

theorem wp_region_plan {id : Nat} {a : Act} {w : World} {l : List Oper} (n : Nat) (plan : List (Nat × Bool)) (C : World → Prop) (hm : P.follows .mixedOrders = true) (hB : planOk .any l.toArray n plan = true)
  (hQ : ∀ c a (d : Option Tmp) (v : Value) w, Q (.panic c) (a.put d v) w → Q (.panic c) a w) (hC : C w.drew)
  (h : wpPlan P l.toArray C Q (wpList P l.toArray Q (l.drop n)) plan a w.drew) : (Code.region id l.toArray true).wp P Q a w := by
 simp only [planOk, Bool.and_eq_true, decide_eq_true_eq] at hB
 obtain ⟨⟨⟨⟨⟨hsel, hn⟩, hlen⟩, hs⟩, hc⟩, hplan⟩ := hB
 have hdl : (l.drop n).length = l.toArray.size - n := by simp
 have inv0 : HeadInv .any l.toArray n (Array.replicate l.toArray.size false) :=
  ⟨by simp, fun j oj _ hl => (by rw [getD_replicate_false] at hl; cases hl), fun t _ ht => getD_in (by simpa using ht) (getD_replicate_false _ _)⟩
 have H := wpAnyT_plan (md := .any) (g := l.toArray.size - n) hsel hQ hs hc hn plan _ a w.drew inv0 hplan hC h
 refine wp_region_any hm ?_
 have := wpAny_of_headT (Q := Q) (g := l.toArray.size - n) (fun listed a' w' hL => by
  have := wpAny_of_seq (md := .any) (Q' := Q) (l.drop n) n listed a' w' (fun j => by simp [List.getElem?_drop]) (by rw [hdl]; exact hL.1) hL.2
  rwa [hdl] at this) _ _ _ _ H
 have hn' : n < l.length := by simpa using hn
 rw [hlen, show n + (l.toArray.size - n) = l.toArray.size by simp; omega] at this
 exact this

end
attribute [go_sem] readAt readUpon
end Go.Proofs.YtkbmigfkclnlaaaGreatDoor
namespace Go.Proofs.YtkbmigfkclnlaaaGreatDoor
open Go Go.RowKit

inductive Pl where
 | nil
 | read (i : Nat) (r : Pl)
 | step (i : Nat) (r : Pl)
 | fork (i j : Nat) (r1 r2 : Pl)

def Pl.len : Pl → Nat
 | .nil => 0
 | .read _ r => r.len + 1
 | .step _ r => r.len + 1
 | .fork _ _ r1 _ => r1.len + 1

section
variable {P : Program} {ops : Array Oper} {md : Region.Mode} {C : World → Prop} {Q : Exit → Act → World → Prop}

def stepAt (P : Program) (ops : Array Oper) (Q : Exit → Act → World → Prop) (i : Nat) (K : Act → World → Prop) (a : Act) (w : World) : Prop :=
 match ops[i]? with
 | none => False
 | some o => if Region.wanted o (yielded ops a.tmps) then o.wp P a w K Q else K (a.put o.dst undef) w

def wpPl (P : Program) (ops : Array Oper) (C : World → Prop) (Q : Exit → Act → World → Prop) (L : Act → World → Prop) : Pl → Act → World → Prop
 | .nil, a, w => L a w
 | .read i r, a, w =>
  match ops[i]? with
  | none => False
  | some o => if Region.wanted o (yielded ops a.tmps) then ∃ v, (∀ w, C w → readAt P o a w v) ∧ wpPl P ops C Q L r (a.put o.dst v) w else wpPl P ops C Q L r (a.put o.dst undef) w
 | .step i r, a, w => stepAt P ops Q i (fun a' w' => C w' ∧ wpPl P ops C Q L r a' w') a w
 | .fork i j r1 r2, a, w => stepAt P ops Q i (fun a' w' => C w' ∧ wpPl P ops C Q L r1 a' w') a w ∧ stepAt P ops Q j (fun a' w' => C w' ∧ wpPl P ops C Q L r2 a' w') a w

theorem pl_read {L : Act → World → Prop} {i : Nat} {r : Pl} {a : Act} {w : World} {o : Oper} (ho : ops[i]? = some o)
  (h : ∀ K : Act → Prop, (∀ a, wpPl P ops C Q L r a w → K a) → if Region.wanted o (yielded ops a.tmps) then ∃ v, (∀ w, C w → readAt P o a w v) ∧ K (a.put o.dst v) else K (a.put o.dst undef)) :
  wpPl P ops C Q L (.read i r) a w := by
 unfold wpPl
 simp only [ho]
 exact h _ (fun _ h => h)

theorem pl_at {K : Act → World → Prop} {i : Nat} {a : Act} {w : World} {o : Oper} (ho : ops[i]? = some o) (hw : Region.wanted o (yielded ops a.tmps) = true) (h : o.wp P a w K Q) : stepAt P ops Q i K a w := by
 unfold stepAt
 simp only [ho, hw, if_true]
 exact h

def plB (md : Region.Mode) (ops : Array Oper) (n g : Nat) : Pl → Array Bool → Bool
 | .nil, listed => Region.seqB md ops g n listed
 | .read i r, listed => decide (i < n) && (Region.ready md ops listed).contains i && Region.free md ops listed i && plB md ops n g r (listed.setIfInBounds i true)
 | .step i r, listed => decide (i < n) && decide (Region.ready md ops listed = [i]) && plB md ops n g r (listed.setIfInBounds i true)
 | .fork i j r1 r2, listed => decide (i < n) && decide (j < n) && decide (Region.ready md ops listed = [i, j]) && decide (r1.len = r2.len) && plB md ops n g r1 (listed.setIfInBounds i true) && plB md ops n g r2 (listed.setIfInBounds j true)

def plOk (md : Region.Mode) (ops : Array Oper) (n : Nat) (plan : Pl) : Bool :=
 Region.noSelect ops && decide (n < ops.size) && decide (plan.len = n) && Region.sinkB md ops n && Region.chainB md ops n && plB md ops n (ops.size - n) plan (Array.replicate ops.size false)

theorem wpOp_stepAt {K K' : Act → World → Prop} {i : Nat} {a : Act} {w : World} (h : stepAt P ops Q i K a w) (hK : ∀ a' w', K a' w' → K' a' w') : wpOp P ops Q i K' a w := by
 unfold stepAt at h
 unfold wpOp
 cases hi : ops[i]? with
 | none => simp only [hi] at h
 | some o =>
  simp only [hi] at h ⊢
  split
  ·rename_i hw
   simp only [hw, if_true] at h
   exact .inl (Oper.wp_mono (fun a' w' h' => hK a' w' h') h)
  ·rename_i hw
   simp only [hw] at h
   exact hK _ _ h

theorem wpAnyT_pl {n g : Nat} {L : Act → World → Prop} (hsel : Region.noSelect ops = true) (hQ : ∀ c a (d : Option Tmp) (v : Value) w, Q (.panic c) (a.put d v) w → Q (.panic c) a w)
  (hs : Region.sinkB md ops n = true) (hc : Region.chainB md ops n = true) (hn : n < ops.size) :
  ∀ (plan : Pl) (listed : Array Bool) (a : Act) (w : World), HeadInv md ops n listed → plB md ops n g plan listed = true → C w → wpPl P ops C Q L plan a w →
   wpAnyT P md ops Q C n (fun listed' a' w' => Region.seqB md ops g n listed' = true ∧ L a' w') plan.len listed a w
 | .nil, listed, a, w, _, hB, hC, h => ⟨hC, by simpa [plB] using hB, h⟩
 | .read i r, listed, a, w, inv, hB, hC, h => by
  simp only [plB, Bool.and_eq_true, decide_eq_true_eq] at hB
  obtain ⟨⟨⟨hin, hr⟩, hf⟩, hB'⟩ := hB
  have hr' : i ∈ Region.ready md ops listed := by simpa using hr
  unfold wpPl at h
  cases hi : ops[i]? with
  | none => simp only [hi] at h
  | some o =>
   simp only [hi] at h
   have hex : ∃ v, YieldsIf P ops C o v a ∧ wpPl P ops C Q L r (a.put o.dst v) w := by
    by_cases hw : Region.wanted o (yielded ops a.tmps) = true
    ·simp only [hw, if_true] at h
     obtain ⟨v, h1, h2⟩ := h
     exact ⟨v, .inl ⟨hw, fun w' hw' => readAt_run (h1 w' hw')⟩, h2⟩
    ·simp only [hw] at h
     exact ⟨undef, .inr ⟨by simpa using hw, rfl⟩, h⟩
   obtain ⟨v, hy, hK⟩ := hex
   exact wpAnyT_first hi (Region.noSelect_spec hsel) (fun c a w => hQ c a _ _ w) hs hc hn hin (fun listed' a' w' hL => seqB_ready hL.1) r.len listed a w inv (Region.free_spec hi hf) hr' hy hC
    (wpAnyT_pl hsel hQ hs hc hn r _ _ _ (inv.set hr' hin) hB' hC hK)
 | .step i r, listed, a, w, inv, hB, hC, h => by
  simp only [plB, Bool.and_eq_true, decide_eq_true_eq] at hB
  obtain ⟨⟨hin, hr⟩, hB'⟩ := hB
  have hr' : i ∈ Region.ready md ops listed := by rw [hr]; simp
  refine ⟨hC, fun h0 => (by rw [h0] at hr; cases hr), fun j hj => ?_⟩
  rw [hr] at hj
  have hji : j = i := by simpa using hj
  subst hji
  refine ⟨hin, ?_⟩
  unfold wpPl at h
  exact wpOp_stepAt h (fun a' w' h' => wpAnyT_pl hsel hQ hs hc hn r _ _ _ (inv.set hr' hin) hB' h'.1 h'.2)
 | .fork i j r1 r2, listed, a, w, inv, hB, hC, h => by
  simp only [plB, Bool.and_eq_true, decide_eq_true_eq] at hB
  obtain ⟨⟨⟨⟨⟨hin, hjn⟩, hr⟩, hlen⟩, hB1⟩, hB2⟩ := hB
  have hri : i ∈ Region.ready md ops listed := by rw [hr]; simp
  have hrj : j ∈ Region.ready md ops listed := by rw [hr]; simp
  unfold wpPl at h
  refine ⟨hC, fun h0 => (by rw [h0] at hr; cases hr), fun x hx => ?_⟩
  rw [hr] at hx
  simp at hx
  rcases hx with hx | hx
  ·rw [hx]
   exact ⟨hin, wpOp_stepAt h.1 (fun a' w' h' => wpAnyT_pl hsel hQ hs hc hn r1 _ _ _ (inv.set hri hin) hB1 h'.1 h'.2)⟩
  ·rw [hx]
   refine ⟨hjn, wpOp_stepAt h.2 (fun a' w' h' => ?_)⟩
   have := wpAnyT_pl hsel hQ hs hc hn r2 _ _ _ (inv.set hrj hjn) hB2 h'.1 h'.2
   rw [← hlen] at this
   exact this

theorem wp_region_pl {id : Nat} {a : Act} {w : World} {l : List Oper} (n : Nat) (plan : Pl) (C : World → Prop) (hm : P.follows .mixedOrders = true) (hB : plOk .any l.toArray n plan = true)
  (hQ : ∀ c a (d : Option Tmp) (v : Value) w, Q (.panic c) (a.put d v) w → Q (.panic c) a w) (hC : C w.drew)
  (h : wpPl P l.toArray C Q (wpList P l.toArray Q (l.drop n)) plan a w.drew) : (Code.region id l.toArray true).wp P Q a w := by
 simp only [plOk, Bool.and_eq_true, decide_eq_true_eq] at hB
 obtain ⟨⟨⟨⟨⟨hsel, hn⟩, hlen⟩, hs⟩, hc⟩, hplan⟩ := hB
 have hdl : (l.drop n).length = l.toArray.size - n := by simp
 have inv0 : HeadInv .any l.toArray n (Array.replicate l.toArray.size false) :=
  ⟨by simp, fun j oj _ hl => (by rw [getD_replicate_false] at hl; cases hl), fun t _ ht => getD_in (by simpa using ht) (getD_replicate_false _ _)⟩
 have H := wpAnyT_pl (md := .any) (g := l.toArray.size - n) hsel hQ hs hc hn plan _ a w.drew inv0 hplan hC h
 refine wp_region_any hm ?_
 have := wpAny_of_headT (Q := Q) (g := l.toArray.size - n) (fun listed a' w' hL => by
  have := wpAny_of_seq (md := .any) (Q' := Q) (l.drop n) n listed a' w' (fun j => by simp [List.getElem?_drop]) (by rw [hdl]; exact hL.1) hL.2
  rwa [hdl] at this) _ _ _ _ H
 have hn' : n < l.length := by simpa using hn
 rw [hlen, show n + (l.toArray.size - n) = l.toArray.size by simp; omega] at this
 exact this

end
end Go.Proofs.YtkbmigfkclnlaaaGreatDoor
namespace Go.Proofs.YtkbmigfkclnlaaaGreatDoor
open Go Go.RowKit

section
variable {P : Program} {ops : Array Oper} {C : World → Prop} {L : Act → Prop} {o : Oper} {rest : List Oper} {a : Act}

theorem quiet_out (hw : Region.wanted o (yielded ops a.tmps) = false) (h : wpQuiet P ops C L rest (a.put o.dst undef)) : wpQuiet P ops C L (o :: rest) a := by
 unfold wpQuiet
 rw [hw]
 exact h

theorem quiet_move (x : Operand) (ho : o.op = .move x) (hw : Region.wanted o (yielded ops a.tmps) = true) (v : Value) (hv : a.eval x = v) (h : wpQuiet P ops C L rest (a.put o.dst v)) : wpQuiet P ops C L (o :: rest) a := by
 unfold wpQuiet
 rw [hw]
 refine ⟨v, fun w _ => ?_, h⟩
 simp only [Oper.quietAt, execOp, ho, hv]
 simp [Oper.quietUpon, go_sem]

theorem quiet_pick_no (c x y : Operand) (ho : o.op = .pick c x y) (hw : Region.wanted o (yielded ops a.tmps) = true) (hc : a.eval c = .bool false) (v : Value) (hv : a.eval y = v) (h : wpQuiet P ops C L rest (a.put o.dst v)) : wpQuiet P ops C L (o :: rest) a := by
 unfold wpQuiet
 rw [hw]
 refine ⟨v, fun w _ => ?_, h⟩
 simp only [Oper.quietAt, execOp, ho, hc, hv]
 simp [Oper.quietUpon, go_sem]
end
end Go.Proofs.YtkbmigfkclnlaaaGreatDoor
