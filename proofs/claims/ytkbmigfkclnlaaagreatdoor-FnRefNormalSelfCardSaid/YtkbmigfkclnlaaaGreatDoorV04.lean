/-
FnRefNormalSelf: the regular expressions, the digest and the reference, part 4 of 26.
-/
import Derived.Test.YtkbmigfkclnlaaaGreatDoorV03
import Derived.Laws.BitsAllLaws
import Derived.Lib.Hide
import Derived.Test.YtkbmigfkclnlaaaGreatDoorProg
import Derived.Test.YtkbmigfkclnlaaaGreatDoorV02
set_option linter.all false
namespace Go.Proofs.YtkbmigfkclnlaaaGreatDoor
open Go.RowKit Go.Rx Go.Rx.Env

structure Widths (E : Env) : Prop where
 beg : ∀ p, E.ew 4 p = decide (p = 0)
 fin : ∀ p, E.ew 8 p = decide (p = E.n)

structure RefAt (E : Env) : Prop where
 dom : DomAt E
 path : PathAt E 28
 tag : TagAt E
 dig : DigAt E
 f1 : E.prog 1 = ⟨3, 2, 4, []⟩
 f2 : E.prog 2 = ⟨2, 27, 2, []⟩
 f26 : E.prog 26 = ⟨8, 28, 0, [47]⟩
 f27 : E.prog 27 = ⟨0, 21, 28, []⟩
 f54 : E.prog 54 = ⟨2, 313, 3, []⟩
 f55 : E.prog 55 = ⟨8, 56, 0, [58]⟩
 f56 : E.prog 56 = ⟨2, 57, 4, []⟩
 f312 : E.prog 312 = ⟨2, 359, 5, []⟩
 f313 : E.prog 313 = ⟨0, 55, 359, []⟩
 f314 : E.prog 314 = ⟨8, 315, 0, [64]⟩
 f315 : E.prog 315 = ⟨2, 316, 6, []⟩
 f358 : E.prog 358 = ⟨2, 360, 7, []⟩
 f359 : E.prog 359 = ⟨0, 314, 360, []⟩
 f360 : E.prog 360 = ⟨3, 361, 8, []⟩
 f361 : (E.prog 361).op = 4

structure NameAt (E : Env) : Prop where
 dom : DomAt E
 path : PathAt E 30
 f1 : E.prog 1 = ⟨3, 28, 4, []⟩
 f2 : E.prog 2 = ⟨2, 21, 2, []⟩
 f26 : E.prog 26 = ⟨2, 27, 3, []⟩
 f27 : E.prog 27 = ⟨8, 29, 0, [47]⟩
 f28 : E.prog 28 = ⟨0, 2, 29, []⟩
 f29 : E.prog 29 = ⟨2, 30, 4, []⟩
 f56 : E.prog 56 = ⟨2, 57, 5, []⟩
 f57 : E.prog 57 = ⟨3, 58, 8, []⟩
 f58 : (E.prog 58).op = 4

def NameL : List Nat → Prop := Cat (Alt (Cat Domain (One (is 47))) Nil) Path

theorem one_is {c : Nat} {v : List Nat} (h : One (is c) v) : v = [c] := by
 obtain ⟨x, rfl, hx⟩ := h
 simp [is] at hx
 rw [hx]

def tagPart : Option (List Nat) → List Nat
 | none => []
 | some g => 58 :: g
def digPart : Option (List Nat) → List Nat
 | none => []
 | some d => 64 :: d

def refCaps (v : List Nat) (tg dg : Option (List Nat)) : List Int :=
 let n := v.length + (tagPart tg).length + (digPart dg).length
 [0, n, 0, v.length, (match tg with | none => -1 | some _ => v.length + 1), (match tg with | none => -1 | some g => v.length + 1 + g.length),
  (match dg with | none => -1 | some _ => v.length + (tagPart tg).length + 1), (match dg with | none => -1 | some _ => n)]

def refCaps0 : List Int := [0, -1, -1, -1, -1, -1, -1, -1]

section
variable {E : Env} (tk : Takes E) (wd : Widths E) {t : List Nat} (ho : Over E t) (hx : ∀ x ∈ t, x < 128)
include tk wd ho hx

omit tk hx in
theorem ref_end (h : RefAt E) (pos : Nat) (c r : List Int) (hc : c.length = 8) (hp : pos ≤ t.length) : Env.Way E 360 pos c r ↔ t.drop pos = [] ∧ r = c.set 1 (t.length : Int) := by
 rw [way_empty (by rw [h.f360]), h.f360, wd.fin, way_done h.f361, ho.n, hc]
 simp only [show (1 : Nat) < 8 by omega, if_true, decide_eq_true_eq]
 constructor
 ·rintro ⟨rfl, rfl⟩; exact ⟨List.drop_length, rfl⟩
 ·rintro ⟨hd, rfl⟩
  have : pos = t.length := by have := List.drop_eq_nil_iff.1 hd; omega
  subst this
  exact ⟨rfl, rfl⟩

theorem ref_dig (h : RefAt E) (pos : Nat) (c r : List Int) (hc : c.length = 8) (hp : pos ≤ t.length) :
  Env.Way E 359 pos c r ↔ ∃ dg : Option (List Nat), t.drop pos = digPart dg ∧ (∀ d, dg = some d → Dig d) ∧
   r = (match dg with | none => c.set 1 (t.length : Int) | some _ => ((c.set 6 ((pos + 1 : Nat) : Int)).set 7 (t.length : Int)).set 1 (t.length : Int)) := by
 rw [way_alt (by rw [h.f359]), h.f359]
 dsimp only
 have hdf := dig_frag tk ho hx h.dig
 have h64 := frag_chr tk ho hx h.f314
 constructor
 ·rintro (g | g)
  ·obtain ⟨v, w, hd, hv, g⟩ := (h64 _ _ _).1 g
   have := one_is hv
   subst this
   rw [way_cap (by rw [h.f315]), h.f315, hc] at g
   simp only [show (6 : Nat) < 8 by omega, if_true] at g
   obtain ⟨d, w', hd', hdd, g⟩ := (hdf _ _ _).1 g
   rw [way_cap (by rw [h.f358]), h.f358] at g
   simp only [List.length_set, hc, show (7 : Nat) < 8 by omega, if_true] at g
   have e1 := drop_split hd
   have e2 := drop_split hd'
   have hl := congrArg List.length hd
   have hl' := congrArg List.length hd'
   simp only [List.length_drop, List.length_append, List.length_singleton, List.length_cons, List.length_nil] at hl hl'
   obtain ⟨e3, e4⟩ := (ref_end wd ho h _ _ _ (by simpa using hc) (by simp only [List.length_singleton]; omega)).1 g
   rw [e3] at e2
   subst e2
   refine ⟨some d, ?_, fun d' hd' => by cases hd'; exact hdd, ?_⟩
   ·rw [hd, ← e1, hd']; simp [digPart]
   ·rw [e4]
    have : pos + [64].length + d.length = t.length := by simp at hl hl' ⊢; omega
    rw [this]
    rfl
  ·obtain ⟨e1, e2⟩ := (ref_end wd ho h _ _ _ hc hp).1 g
   exact ⟨none, e1, fun d hd => by (cases hd), e2⟩
 ·rintro ⟨dg, hd, hdd, rfl⟩
  cases dg with
  | none => exact .inr ((ref_end wd ho h _ _ _ hc hp).2 ⟨hd, rfl⟩)
  | some d =>
   have hl := congrArg List.length hd
   simp [digPart] at hl
   refine .inl ((h64 _ _ _).2 ⟨[64], d, hd, ⟨64, rfl, rfl⟩, ?_⟩)
   rw [way_cap (by rw [h.f315]), h.f315, hc]
   simp only [show (6 : Nat) < 8 by omega, if_true]
   have e1 : t.drop (pos + [64].length) = d := drop_split (v := [64]) hd
   refine (hdf _ _ _).2 ⟨d, [], by rw [e1]; simp, hdd d rfl, ?_⟩
   rw [way_cap (by rw [h.f358]), h.f358]
   simp only [List.length_set, hc, show (7 : Nat) < 8 by omega, if_true]
   have e2 : pos + [64].length + d.length = t.length := by simp; omega
   rw [e2]
   exact (ref_end wd ho h _ _ _ (by simpa using hc) (Nat.le_refl _)).2 ⟨List.drop_length, rfl⟩

theorem ref_tag (h : RefAt E) (pos : Nat) (c r : List Int) (hc : c.length = 8) (hp : pos ≤ t.length) :
  Env.Way E 313 pos c r ↔ ∃ tg dg : Option (List Nat), t.drop pos = tagPart tg ++ digPart dg ∧ (∀ g, tg = some g → Tag g) ∧ (∀ d, dg = some d → Dig d) ∧
   Env.Way E 359 (pos + (tagPart tg).length) (match tg with | none => c | some g => (c.set 4 ((pos + 1 : Nat) : Int)).set 5 ((pos + 1 + g.length : Nat) : Int)) r ∧ t.drop (pos + (tagPart tg).length) = digPart dg := by
 rw [way_alt (by rw [h.f313]), h.f313]
 dsimp only
 have htf := tag_frag tk ho hx h.tag
 have h58 := frag_chr tk ho hx h.f55
 constructor
 ·rintro (g | g)
  ·obtain ⟨v, w, hd, hv, g⟩ := (h58 _ _ _).1 g
   have := one_is hv
   subst this
   rw [way_cap (by rw [h.f56]), h.f56, hc] at g
   simp only [show (4 : Nat) < 8 by omega, if_true] at g
   obtain ⟨d, w', hd', hdd, g⟩ := (htf _ _ _).1 g
   rw [way_cap (by rw [h.f312]), h.f312] at g
   simp only [List.length_set, hc, show (5 : Nat) < 8 by omega, if_true] at g
   have e1 := drop_split hd
   have e2 := drop_split hd'
   have hl := congrArg List.length hd
   have hl' := congrArg List.length hd'
   simp only [List.length_drop, List.length_append, List.length_singleton, List.length_cons, List.length_nil] at hl hl'
   obtain ⟨dg, e3, e4, _⟩ := (ref_dig tk wd ho hx h _ _ _ (by simpa using hc) (by simp only [List.length_singleton]; omega)).1 g
   refine ⟨some d, dg, ?_, fun d' hd' => by cases hd'; exact hdd, e4, ?_, ?_⟩
   ·rw [hd, ← e1, hd', ← e2, e3]; simp [tagPart]
   ·have e5 : pos + (tagPart (some d)).length = pos + [58].length + d.length := by simp [tagPart]; omega
    rw [e5]
    exact g
   ·have e5 : pos + (tagPart (some d)).length = pos + [58].length + d.length := by simp [tagPart]; omega
    rw [e5]
    exact e3
  ·obtain ⟨dg, e3, e4, _⟩ := (ref_dig tk wd ho hx h _ _ _ hc hp).1 g
   exact ⟨none, dg, e3, fun d hd => by (cases hd), e4, g, e3⟩
 ·rintro ⟨tg, dg, hd, ht, hdd, g, hdr⟩
  cases tg with
  | none => exact .inr g
  | some d =>
   refine .inl ((h58 _ _ _).2 ⟨[58], d ++ digPart dg, hd, ⟨58, rfl, rfl⟩, ?_⟩)
   rw [way_cap (by rw [h.f56]), h.f56, hc]
   simp only [show (4 : Nat) < 8 by omega, if_true]
   have e1 : t.drop (pos + [58].length) = d ++ digPart dg := drop_split (v := [58]) hd
   refine (htf _ _ _).2 ⟨d, digPart dg, e1, ht d rfl, ?_⟩
   rw [way_cap (by rw [h.f312]), h.f312]
   simp only [List.length_set, hc, show (5 : Nat) < 8 by omega, if_true]
   have e5 : pos + (tagPart (some d)).length = pos + [58].length + d.length := by simp [tagPart]; omega
   rw [e5] at g
   exact g

theorem ref_way (h : RefAt E) (r : List Int) : Env.Way E 1 0 refCaps0 r ↔ ∃ (v : List Nat) (tg dg : Option (List Nat)), t = v ++ (tagPart tg ++ digPart dg) ∧ NameL v ∧ (∀ g, tg = some g → Tag g) ∧ (∀ d, dg = some d → Dig d) ∧ r = refCaps v tg dg := by
 have hn : Frag E t 27 NameL 54 := frag_cat (frag_opt (by rw [h.f27]) (by rw [h.f27]) (by rw [h.f27]) (frag_cat (domain_frag tk ho hx h.dom) (frag_chr tk ho hx h.f26))) (path_frag tk ho hx h.path)
 rw [way_empty (by rw [h.f1]), h.f1, wd.beg, way_cap (by rw [h.f2]), h.f2]
 simp only [refCaps0, List.length_cons, List.length_nil, show (2 : Nat) < 0 + 1 + 1 + 1 + 1 + 1 + 1 + 1 + 1 by omega, if_true, decide_true, true_and]
 constructor
 ·intro g
  obtain ⟨v, w, hd, hv, g⟩ := (hn _ _ _).1 g
  rw [way_cap (by rw [h.f54]), h.f54] at g
  simp only [List.length_set, List.length_cons, List.length_nil, show (3 : Nat) < 0 + 1 + 1 + 1 + 1 + 1 + 1 + 1 + 1 by omega, if_true] at g
  have hl := congrArg List.length hd
  simp at hl
  obtain ⟨tg, dg, e1, e2, e3, g, e4⟩ := (ref_tag tk wd ho hx h _ _ _ (by simp) (by omega)).1 g
  rw [drop_split hd] at e1
  rw [List.drop_zero] at hd
  rw [e1] at hd
  refine ⟨v, tg, dg, hd, hv, e2, e3, ?_⟩
  have hl2 := congrArg List.length hd
  simp at hl2
  obtain ⟨dg', e5, _, e6⟩ := (ref_dig tk wd ho hx h _ _ _ (by cases tg <;> simp) (by omega)).1 g
  rw [e4] at e5
  have : dg' = dg := by
   cases dg with
   | none => cases dg' with
    | none => rfl
    | some x => simp [digPart] at e5
   | some y => cases dg' with
    | none => simp [digPart] at e5
    | some x => simp [digPart] at e5; rw [e5]
  subst this
  rw [e6]
  unfold refCaps
  cases tg <;> cases dg' <;> simp [tagPart, digPart] at hl2 ⊢ <;> omega
 ·rintro ⟨v, tg, dg, hd, hv, ht, hdd, rfl⟩
  have hl2 := congrArg List.length hd
  simp at hl2
  refine (hn _ _ _).2 ⟨v, tagPart tg ++ digPart dg, by rw [List.drop_zero]; exact hd, hv, ?_⟩
  rw [way_cap (by rw [h.f54]), h.f54]
  simp only [List.length_set, List.length_cons, List.length_nil, show (3 : Nat) < 0 + 1 + 1 + 1 + 1 + 1 + 1 + 1 + 1 by omega, if_true]
  have e1 : t.drop (0 + v.length) = tagPart tg ++ digPart dg := drop_split (pos := 0) (by rw [List.drop_zero]; exact hd)
  have e4 : t.drop (0 + v.length + (tagPart tg).length) = digPart dg := drop_split e1
  refine (ref_tag tk wd ho hx h _ _ _ (by simp) (by omega)).2 ⟨tg, dg, e1, ht, hdd, ?_, e4⟩
  refine (ref_dig tk wd ho hx h _ _ _ (by cases tg <;> simp) (by omega)).2 ⟨dg, e4, hdd, ?_⟩
  unfold refCaps
  cases tg <;> cases dg <;> simp [tagPart, digPart] at hl2 ⊢ <;> omega


omit tk hx in
theorem name_end (h : NameAt E) (pos : Nat) (c r : List Int) (hc : c.length = 6) (hp : pos ≤ t.length) : Env.Way E 57 pos c r ↔ t.drop pos = [] ∧ r = c.set 1 (t.length : Int) := by
 rw [way_empty (by rw [h.f57]), h.f57, wd.fin, way_done h.f58, ho.n, hc]
 simp only [show (1 : Nat) < 6 by omega, if_true, decide_eq_true_eq]
 constructor
 ·rintro ⟨rfl, rfl⟩; exact ⟨List.drop_length, rfl⟩
 ·rintro ⟨hd, rfl⟩
  have : pos = t.length := by have := List.drop_eq_nil_iff.1 hd; omega
  subst this
  exact ⟨rfl, rfl⟩

theorem name_path (h : NameAt E) (pos : Nat) (c r : List Int) (hc : c.length = 6) (hp : pos ≤ t.length) :
  Env.Way E 29 pos c r ↔ Path (t.drop pos) ∧ r = ((c.set 4 (pos : Int)).set 5 (t.length : Int)).set 1 (t.length : Int) := by
 have hpf := path_frag tk ho hx h.path
 rw [way_cap (by rw [h.f29]), h.f29, hc]
 simp only [show (4 : Nat) < 6 by omega, if_true]
 rw [hpf]
 constructor
 ·rintro ⟨v, w, hd, hv, g⟩
  have hl := congrArg List.length hd
  simp at hl
  rw [way_cap (by rw [h.f56]), h.f56] at g
  simp only [List.length_set, hc, show (5 : Nat) < 6 by omega, if_true] at g
  obtain ⟨e1, e2⟩ := (name_end wd ho h _ _ _ (by simpa using hc) (by omega)).1 g
  rw [drop_split hd] at e1
  subst e1
  simp at hl
  rw [hd, List.append_nil]
  refine ⟨hv, ?_⟩
  rw [e2, show pos + v.length = t.length by omega]
 ·rintro ⟨hv, rfl⟩
  refine ⟨t.drop pos, [], by simp, hv, ?_⟩
  rw [way_cap (by rw [h.f56]), h.f56]
  simp only [List.length_set, hc, show (5 : Nat) < 6 by omega, if_true]
  have e : pos + (t.drop pos).length = t.length := by simp; omega
  rw [e]
  exact (name_end wd ho h _ _ _ (by simpa using hc) (Nat.le_refl _)).2 ⟨List.drop_length, rfl⟩

def nameCaps0 : List Int := [0, -1, -1, -1, -1, -1]

theorem name_dom (h : NameAt E) (r : List Int) :
  Env.Way E 2 0 nameCaps0 r ↔ ∃ d p, t = d ++ 47 :: p ∧ Domain d ∧ Path p ∧ r = [0, (t.length : Int), 0, (d.length : Int), (d.length : Int) + 1, (t.length : Int)] := by
 have hdf := domain_frag tk ho hx h.dom
 have h47 := frag_chr tk ho hx h.f27
 rw [way_cap (by rw [h.f2]), h.f2]
 simp only [nameCaps0, List.length_cons, List.length_nil, show (2 : Nat) < 0 + 1 + 1 + 1 + 1 + 1 + 1 by omega, if_true]
 rw [hdf]
 constructor
 ·rintro ⟨v, w, hd, hv, g⟩
  have hl := congrArg List.length hd
  simp at hl
  rw [way_cap (by rw [h.f26]), h.f26] at g
  simp only [List.length_set, List.length_cons, List.length_nil, show (3 : Nat) < 0 + 1 + 1 + 1 + 1 + 1 + 1 by omega, if_true] at g
  obtain ⟨u, w', hd', hu, g⟩ := (h47 _ _ _).1 g
  have := one_is hu
  subst this
  rw [drop_split hd] at hd'
  subst hd'
  have hl' := hl
  simp at hl'
  obtain ⟨e1, e2⟩ := (name_path tk wd ho hx h _ _ _ (by simp) (by simp; omega)).1 g
  rw [List.drop_zero] at hd
  have e3 : t.drop (0 + v.length + [47].length) = w' := by
   rw [hd, show 0 + v.length + [47].length = v.length + 1 by simp, ← List.drop_drop, List.drop_left]; rfl
  rw [e3] at e1
  refine ⟨v, w', hd, hv, e1, ?_⟩
  rw [e2]
  simp
 ·rintro ⟨d, p, hd, hdd, hp, rfl⟩
  have hl := congrArg List.length hd
  simp at hl
  refine ⟨d, 47 :: p, by rw [List.drop_zero]; exact hd, hdd, ?_⟩
  rw [way_cap (by rw [h.f26]), h.f26]
  simp only [List.length_set, List.length_cons, List.length_nil, show (3 : Nat) < 0 + 1 + 1 + 1 + 1 + 1 + 1 by omega, if_true]
  have e1 : t.drop (0 + d.length) = 47 :: p := drop_split (pos := 0) (by rw [List.drop_zero]; exact hd)
  refine (h47 _ _ _).2 ⟨[47], p, e1, ⟨47, rfl, rfl⟩, ?_⟩
  refine (name_path tk wd ho hx h _ _ _ (by simp) (by simp; omega)).2 ⟨?_, ?_⟩
  ·rw [drop_split (v := [47]) e1]; exact hp
  ·simp

end


theorem cut_unique {c : Nat} {a a' b b' : List Nat} (h : a ++ b = a' ++ b') (ha : c ∉ a) (ha' : c ∉ a') (hb : b = [] ∨ ∃ r, b = c :: r) (hb' : b' = [] ∨ ∃ r, b' = c :: r) : a = a' ∧ b = b' := by
 rcases List.append_eq_append_iff.1 h with ⟨x, e1, e2⟩ | ⟨x, e1, e2⟩
 ·cases x with
  | nil => simp at e1 e2; exact ⟨e1.symm, e2⟩
  | cons y x =>
   rcases hb with rfl | ⟨r, rfl⟩
   ·simp at e2
   ·have := (List.cons.inj e2).1
    subst this
    exact absurd (by rw [e1]; simp) ha'
 ·cases x with
  | nil => simp at e1 e2; exact ⟨e1, e2.symm⟩
  | cons y x =>
   rcases hb' with rfl | ⟨r, rfl⟩
   ·simp at e2
   ·have := (List.cons.inj e2).1
    subst this
    exact absurd (by rw [e1]; simp) ha

theorem cut_last {c : Nat} {a a' b b' : List Nat} (h : a ++ c :: b = a' ++ c :: b') (hb : c ∉ b) (hb' : c ∉ b') : a = a' ∧ b = b' := by
 rcases List.append_eq_append_iff.1 h with ⟨x, e1, e2⟩ | ⟨x, e1, e2⟩
 ·cases x with
  | nil => simp at e1 e2; exact ⟨e1.symm, e2⟩
  | cons y x =>
   have := (List.cons.inj e2).2
   exact absurd (by rw [this]; simp) hb
 ·cases x with
  | nil => simp at e1 e2; exact ⟨e1, e2.symm⟩
  | cons y x =>
   have := (List.cons.inj e2).2
   exact absurd (by rw [this]; simp) hb'

theorem dom_no {d : List Nat} (h : Domain d) : 64 ∉ d ∧ 47 ∉ d :=
 ⟨fun hm => by have := domain_chars h _ hm; unfold Dch at this; omega, fun hm => by have := domain_chars h _ hm; unfold Dch at this; omega⟩
theorem path_no {d : List Nat} (h : Path d) : 64 ∉ d ∧ 58 ∉ d :=
 ⟨fun hm => by have := path_chars h _ hm; unfold Pch at this; omega, fun hm => by have := path_chars h _ hm; unfold Pch at this; omega⟩
theorem tch_bounds {x : Nat} (h : tch x = true) : x ≠ 64 ∧ x ≠ 58 ∧ x ≠ 47 ∧ x < 128 := by
 simp [tch, wrd, aln, low, dig, is] at h
 omega
theorem tag_no {d : List Nat} (h : Tag d) : 64 ∉ d ∧ 58 ∉ d ∧ 47 ∉ d :=
 ⟨fun hm => by have := tch_bounds (tag_chars h _ hm); omega, fun hm => by have := tch_bounds (tag_chars h _ hm); omega, fun hm => by have := tch_bounds (tag_chars h _ hm); omega⟩

theorem nameL_iff (v : List Nat) : NameL v ↔ Path v ∨ ∃ d p, v = d ++ 47 :: p ∧ Domain d ∧ Path p := by
 constructor
 ·rintro ⟨a, p, rfl, ⟨d, u, rfl, hd, hu⟩ | ha, hp⟩
  ·have := one_is hu
   subst this
   exact .inr ⟨d, p, by simp, hd, hp⟩
  ·have ha : a = [] := ha
   subst ha
   exact .inl hp
 ·rintro (h | ⟨d, p, rfl, hd, hp⟩)
  ·exact ⟨[], v, rfl, .inr rfl, h⟩
  ·exact ⟨d ++ [47], p, by simp, .inl ⟨d, [47], rfl, hd, ⟨47, rfl, rfl⟩⟩, hp⟩

theorem nameL_no {v : List Nat} (h : NameL v) : 64 ∉ v := by
 rcases (nameL_iff v).1 h with h | ⟨d, p, rfl, hd, hp⟩
 ·exact (path_no h).1
 ·have := (dom_no hd).1
  have := (path_no hp).1
  simp [*]

theorem nameL_tag {v v' g : List Nat} (h : NameL v) (hg : Tag g) : v ≠ v' ++ 58 :: g := by
 rintro rfl
 rcases (nameL_iff _).1 h with h | ⟨d, p, e, hd, hp⟩
 ·exact (path_no h).2 (by simp)
 ·have h1 := (tag_no hg).2.2
  have h2 := (path_no hp).2
  rcases List.append_eq_append_iff.1 e with ⟨x, e1, e2⟩ | ⟨x, e1, e2⟩
  ·cases x with
   | nil => simp at e2
   | cons y x =>
    have := (List.cons.inj e2).2
    exact h1 (by rw [this]; simp)
  ·cases x with
   | nil => simp at e2
   | cons y x =>
    have := (List.cons.inj e2).2
    exact h2 (by rw [this]; simp)

theorem parts_unique {v v' : List Nat} {tg tg' dg dg' : Option (List Nat)} (e : v ++ (tagPart tg ++ digPart dg) = v' ++ (tagPart tg' ++ digPart dg')) (hv : NameL v) (hv' : NameL v')
  (ht : ∀ g, tg = some g → Tag g) (ht' : ∀ g, tg' = some g → Tag g) : v = v' ∧ tg = tg' ∧ dg = dg' := by
 have tp : ∀ (o : Option (List Nat)), (∀ g, o = some g → Tag g) → 64 ∉ tagPart o := by
  intro o h
  cases o with
  | none => simp [tagPart]
  | some g =>
   have := (tag_no (h g rfl)).1
   simp [tagPart, this]
 have dp : ∀ (o : Option (List Nat)), digPart o = [] ∨ ∃ r, digPart o = 64 :: r := by
  intro o
  cases o with
  | none => exact .inl rfl
  | some d => exact .inr ⟨d, rfl⟩
 rw [← List.append_assoc, ← List.append_assoc] at e
 obtain ⟨e1, e2⟩ := cut_unique e (by have := nameL_no hv; have := tp tg ht; simp [*]) (by have := nameL_no hv'; have := tp tg' ht'; simp [*]) (dp dg) (dp dg')
 have hd : dg = dg' := by
  cases dg <;> cases dg' <;> simp [digPart] at e2 ⊢
  exact e2
 refine ⟨?_, ?_, hd⟩
 ·cases tg with
  | none =>
   cases tg' with
   | none => simpa [tagPart] using e1
   | some g' =>
    simp only [tagPart, List.append_nil] at e1
    exact absurd e1 (nameL_tag hv (ht' g' rfl))
  | some g =>
   cases tg' with
   | none =>
    simp only [tagPart, List.append_nil] at e1
    exact absurd e1.symm (nameL_tag hv' (ht g rfl))
   | some g' => exact (cut_last e1 (tag_no (ht g rfl)).2.1 (tag_no (ht' g' rfl)).2.1).1
 ·cases tg with
  | none =>
   cases tg' with
   | none => rfl
   | some g' =>
    simp only [tagPart, List.append_nil] at e1
    exact absurd e1 (nameL_tag hv (ht' g' rfl))
  | some g =>
   cases tg' with
   | none =>
    simp only [tagPart, List.append_nil] at e1
    exact absurd e1.symm (nameL_tag hv' (ht g rfl))
   | some g' => rw [(cut_last e1 (tag_no (ht g rfl)).2.1 (tag_no (ht' g' rfl)).2.1).2]

section
variable {E : Env} (hE : E.Ok) (tk : Takes E) (wd : Widths E) {t : List Nat} (ho : Over E t) (hx : ∀ x ∈ t, x < 128)
include hE tk wd ho hx

theorem ref_res (h : RefAt E) {v : List Nat} {tg dg : Option (List Nat)} (ht : t = v ++ (tagPart tg ++ digPart dg)) (hv : NameL v) (hg : ∀ g, tg = some g → Tag g) (hd : ∀ d, dg = some d → Dig d) :
  res E 1 0 refCaps0 = some (refCaps v tg dg) := by
 refine res_only hE ((ref_way tk wd ho hx h _).2 ⟨v, tg, dg, ht, hv, hg, hd, rfl⟩) ?_
 intro r' hr
 obtain ⟨v', tg', dg', ht', hv', hg', hd', rfl⟩ := (ref_way tk wd ho hx h _).1 hr
 rw [ht] at ht'
 obtain ⟨rfl, rfl, rfl⟩ := parts_unique ht' hv hv' hg hg'
 rfl

theorem name_first (h : NameAt E) : res E 1 0 nameCaps0 = (res E 2 0 nameCaps0).or (res E 29 0 nameCaps0) := by
 rw [res_eq hE, h.f1]
 simp only [show ¬ (3 : Nat) = 0 by decide, show ¬ (3 : Nat) = 2 by decide, if_false, if_true, wd.beg, decide_true]
 rw [res_eq hE, h.f28]
 simp only [if_true]

theorem name_res_dom (h : NameAt E) {d p : List Nat} (ht : t = d ++ 47 :: p) (hd : Domain d) (hp : Path p) :
  res E 1 0 nameCaps0 = some [0, (t.length : Int), 0, (d.length : Int), (d.length : Int) + 1, (t.length : Int)] := by
 rw [name_first hE tk wd ho hx h]
 have : res E 2 0 nameCaps0 = some [0, (t.length : Int), 0, (d.length : Int), (d.length : Int) + 1, (t.length : Int)] := by
  refine res_only hE ((name_dom tk wd ho hx h _).2 ⟨d, p, ht, hd, hp, rfl⟩) ?_
  intro r' hr
  obtain ⟨d', p', ht', hd', _, rfl⟩ := (name_dom tk wd ho hx h _).1 hr
  have := (cut_unique (c := 47) (ht.symm.trans ht') (dom_no hd).2 (dom_no hd').2 (.inr ⟨_, rfl⟩) (.inr ⟨_, rfl⟩)).1
  rw [this]
 rw [this]
 rfl

theorem name_res_path (h : NameAt E) (hp : Path t) (hn : ∀ d p, t = d ++ 47 :: p → Domain d → Path p → False) :
  res E 1 0 nameCaps0 = some [0, (t.length : Int), -1, -1, 0, (t.length : Int)] := by
 rw [name_first hE tk wd ho hx h]
 have h1 : res E 2 0 nameCaps0 = none := by
  cases hr : res E 2 0 nameCaps0 with
  | none => rfl
  | some r =>
   obtain ⟨d, p, e, hd, hp, _⟩ := (name_dom tk wd ho hx h _).1 (res_way hE _ _ _ _ _ (Nat.le_refl _) hr)
   exact absurd hp (fun hp => hn d p e hd hp)
 have h2 : res E 29 0 nameCaps0 = some [0, (t.length : Int), -1, -1, 0, (t.length : Int)] := by
  refine res_only hE ((name_path tk wd ho hx h 0 _ _ rfl (Nat.zero_le _)).2 ⟨by rw [List.drop_zero]; exact hp, rfl⟩) ?_
  intro r' hr
  exact ((name_path tk wd ho hx h 0 _ _ rfl (Nat.zero_le _)).1 hr).2
 rw [h1, h2]
 rfl
end

end Go.Proofs.YtkbmigfkclnlaaaGreatDoor
namespace Go.Proofs.YtkbmigfkclnlaaaGreatDoor
open Go.RowKit

def flagOf (r1 r2 : Int) : Int := bits BinOp.or IntKind.u64 (IntKind.u64.wrap (IntKind.u64.wrap r1 * 4294967296)) (r2 % 4294967296)

theorem flag_eq (r1 r2 : Int) : flagOf r1 r2 = (r1 % 4294967296) * 4294967296 + r2 % 4294967296 := by
 unfold flagOf
 have e : IntKind.u64.wrap (IntKind.u64.wrap r1 * 4294967296) = (r1 % 4294967296) * 4294967296 := by
  simp only [IntKind.wrap, IntKind.bits, IntKind.signed]
  simp
  omega
 rw [e, u64_or _ _ (by omega) (by omega) (by omega) (by omega)]
 rw [nat_join 32 _ _ (by omega) (by omega)]
 omega

theorem flag_hi (r1 r2 : Int) (_a : -1 ≤ r1) (_b : r1 < 1114112) : wrap32 (flagOf r1 r2 / 4294967296) = r1 := by
 rw [flag_eq r1 r2]
 unfold wrap32
 omega

theorem flag_lo (r1 r2 : Int) (_a2 : -1 ≤ r2) (_b2 : r2 < 1114112) : wrap32 (flagOf r1 r2) = r2 := by
 rw [flag_eq r1 r2]
 unfold wrap32
 omega

theorem flag_new (r1 r2 : Int) (w : World) : Calls Tryz.prog 107 #[.int .i32 r1, .int .i32 r2] w fun e w' => e = .returned (.int .u64 (flagOf r1 r2)) ∧ w' = w := by
 go_enter Tryz.func107, Tryz.ntmps107
 go_wp2_with fail
 go_ret
 exact ⟨rfl, rfl⟩

theorem flag_begin (f : Int) (w : World) : Calls Tryz.prog 121 #[.int .u64 f, .int .u8 4] w fun e w' => e = .returned (.bool (decide (wrap32 (f / 4294967296) < 0))) ∧ w' = w := by
 by_cases h : wrap32 (f / 4294967296) < 0
 ·rw [decide_eq_true h]
  go_enter Tryz.func121, Tryz.ntmps121
  go_wp2_with fail
  go_ret
  exact ⟨rfl, rfl⟩
 ·rw [decide_eq_false h]
  have h' : 0 ≤ wrap32 (f / 4294967296) := by omega
  go_enter Tryz.func121, Tryz.ntmps121
  go_wp2_with fail
  go_ret
  exact ⟨rfl, rfl⟩

theorem flag_end (f : Int) (w : World) : Calls Tryz.prog 121 #[.int .u64 f, .int .u8 8] w fun e w' => e = .returned (.bool (decide (wrap32 f < 0))) ∧ w' = w := by
 by_cases h : wrap32 f < 0
 ·rw [decide_eq_true h]
  go_enter Tryz.func121, Tryz.ntmps121
  go_wp2_with fail
  go_ret
  exact ⟨rfl, rfl⟩
 ·rw [decide_eq_false h]
  have h' : 0 ≤ wrap32 f := by omega
  go_enter Tryz.func121, Tryz.ntmps121
  go_wp2_with fail
  go_ret
  exact ⟨rfl, rfl⟩

def runeAt (s : ByteArray) (p : Nat) : Int := if h : p < s.size then ((s[p]'h).toNat : Nat) else -1
def runeAhead (s : ByteArray) (p : Nat) : Int := if p = 0 then -1 else runeAt s (p - 1)

def Plain (s : ByteArray) : Prop := ∀ i (h : i < s.size), (s[i]'h).toNat < 128

set_option maxRecDepth 100000 in
theorem dec_last (t : ByteArray) (w : World) (k : Nat) (hlt : k < t.size) (hk : t.size = k + 1) (hb : (t[k]'hlt).toNat < 128) (hsz : k < 100000000000) :
  Calls Tryz.prog 175 #[.string t] w fun e w' => e = .returned (.tuple #[.int .i32 ((t[k]'hlt).toNat : Nat), .int .i64 1]) ∧ w' = w := by
 have hb' : (((t[k]'hlt).toNat : Nat) : Int) < 128 := by omega
 have hki : ((t.size : Int) - 1) = (k : Int) := by omega
 have hne : ¬ (t.size : Int) = 0 := by omega
 have H := Lib.hid hk
 clear hk
 go_enter Tryz.func175, Tryz.ntmps175
 go_wp2_with fail
 go_ret2
 exact ⟨rfl, rfl⟩

theorem extract_at (s : ByteArray) (a b i : Nat) (hb : b ≤ s.size) (hi : a + i < b) (h : i < (s.extract a b).size) : (s.extract a b)[i]'h = s[a + i]'(by omega) := by
 simp [ByteArray.getElem_extract]

theorem u64_neg_one (n : Nat) (h : n < 100000000000) : ¬ IntKind.u64.wrap (-1) < (n : Int) := by
 have : IntKind.u64.wrap (-1) = 18446744073709551615 := rfl
 omega

set_option maxRecDepth 100000 in
theorem context_zero (B : Nat) (s : ByteArray) (w : World) (hs : w.cell? ⟨B, 5, none⟩ = some (.string s)) (hp : Plain s) (hsz : s.size < 100000000000) :
  Calls Tryz.prog 171 #[.pointer (some ⟨B, 5, none⟩), .int .i64 (0 : Nat)] w fun e w' => e = .returned (.int .u64 (flagOf (-1) (runeAt s 0))) ∧ w' = w := by
 have hw := u64_neg_one s.size hsz
 by_cases h0 : 0 < s.size
 ·have e2 : runeAt s 0 = ((s[0]'h0).toNat : Nat) := by unfold runeAt; rw [dif_pos h0]
  rw [e2]
  have hd := dec_plain s w h0 (hp 0 h0)
  clear e2 hp
  go_enter Tryz.func171, Tryz.ntmps171
  go_wp2_with (first | (go_at_call 107; (with_reducible refine (flag_new _ _ _).mono ?_); rintro e w' ⟨rfl, rfl⟩) | (go_at_call 176; (with_reducible refine hd.mono ?_); rintro e w' ⟨rfl, rfl⟩))
  go_ret
  exact ⟨rfl, rfl⟩
 ·have e2 : runeAt s 0 = -1 := by unfold runeAt; rw [dif_neg h0]
  rw [e2]
  clear e2 hp
  go_enter Tryz.func171, Tryz.ntmps171
  go_wp2_with (first | (go_at_call 107; (with_reducible refine (flag_new _ _ _).mono ?_); rintro e w' ⟨rfl, rfl⟩))
  go_ret
  exact ⟨rfl, rfl⟩

set_option maxRecDepth 100000 in
theorem context_pos (B pos : Nat) (s : ByteArray) (w : World) (hs : w.cell? ⟨B, 5, none⟩ = some (.string s)) (hp : Plain s) (h1 : 1 ≤ pos) (hpos : pos ≤ s.size) (hsz : s.size < 100000000000) :
  Calls Tryz.prog 171 #[.pointer (some ⟨B, 5, none⟩), .int .i64 pos] w fun e w' => e = .returned (.int .u64 (flagOf (runeAhead s pos) (runeAt s pos))) ∧ w' = w := by
 obtain ⟨k, hk⟩ : ∃ k, k = pos - 1 := ⟨_, rfl⟩
 have hks : k < s.size := by omega
 have e1 : runeAhead s pos = ((s[k]'hks).toNat : Nat) := by
  unfold runeAhead runeAt
  rw [if_neg (by omega), ← hk, dif_pos hks]
 rw [e1]
 have hl0 : (s.extract 0 pos).size = pos := by simp; omega
 have hl : k < (s.extract 0 pos).size := by omega
 have hat := extract_at s 0 pos k hpos (by omega) hl
 simp only [Nat.zero_add] at hat
 have hd : Calls Tryz.prog 175 #[.string (s.extract 0 pos)] w fun e w' => e = .returned (.tuple #[.int .i32 ((s[k]'hks).toNat : Nat), .int .i64 1]) ∧ w' = w := by
  have := dec_last (s.extract 0 pos) w k hl (by omega) (by rw [hat]; exact hp k hks) (by omega)
  rw [hat] at this
  exact this
 have hki : (pos : Int) - 1 = (k : Int) := by omega
 have hkw : IntKind.u64.wrap (k : Int) = (k : Int) := by simp only [IntKind.wrap, IntKind.bits, IntKind.signed]; simp; omega
 by_cases h2 : pos < s.size
 ·have e2 : runeAt s pos = ((s[pos]'h2).toNat : Nat) := by unfold runeAt; rw [dif_pos h2]
  rw [e2]
  have hl2 : 0 < (s.extract pos s.size).size := by simp; omega
  have hat2 := extract_at s pos s.size 0 (Nat.le_refl _) (by omega) hl2
  simp only [Nat.add_zero] at hat2
  have hd2 : Calls Tryz.prog 176 #[.string (s.extract pos s.size)] w fun e w' => e = .returned (.tuple #[.int .i32 ((s[pos]'h2).toNat : Nat), .int .i64 1]) ∧ w' = w := by
   have := dec_plain (s.extract pos s.size) w hl2 (by rw [hat2]; exact hp pos h2)
   rw [hat2] at this
   exact this
  clear e1 e2 hat hat2 hp hl hl0 hl2 hk
  go_enter Tryz.func171, Tryz.ntmps171
  go_wp2_with (first | (go_at_call 107; (with_reducible refine (flag_new _ _ _).mono ?_); rintro e w' ⟨rfl, rfl⟩) | (go_at_call 175; (with_reducible refine hd.mono ?_); rintro e w' ⟨rfl, rfl⟩) | (go_at_call 176; (with_reducible refine hd2.mono ?_); rintro e w' ⟨rfl, rfl⟩))
  go_ret
  exact ⟨rfl, rfl⟩
 ·have e2 : runeAt s pos = -1 := by unfold runeAt; rw [dif_neg h2]
  rw [e2]
  clear e1 e2 hat hp hl hl0 hk
  go_enter Tryz.func171, Tryz.ntmps171
  go_wp2_with (first | (go_at_call 107; (with_reducible refine (flag_new _ _ _).mono ?_); rintro e w' ⟨rfl, rfl⟩) | (go_at_call 175; (with_reducible refine hd.mono ?_); rintro e w' ⟨rfl, rfl⟩))
  go_ret
  exact ⟨rfl, rfl⟩

end Go.Proofs.YtkbmigfkclnlaaaGreatDoor
namespace Go.Rx

theorem countP_one (f g : Nat → Bool) (i0 : Nat) (h : ∀ i, i ≠ i0 → g i = f i) (hf : f i0 = false) (hg : g i0 = true) : ∀ n, (List.range n).countP g = (List.range n).countP f + if i0 < n then 1 else 0
 | 0 => by simp
 | n + 1 => by
  rw [List.range_succ, List.countP_append, List.countP_append, countP_one f g i0 h hf hg n]
  by_cases e : n = i0
  ·subst e
   simp [hf, hg]
  ·have := h n e
   by_cases hl : i0 < n
   ·rw [if_pos hl, if_pos (by omega)]
    simp [this]
    omega
   ·rw [if_neg hl, if_neg (by omega)]
    simp [this]

def cnt (np en : Nat) (v : Nat → Nat → Bool) : Nat := (List.range (np * (en + 1))).countP fun i => v (i / (en + 1)) (i % (en + 1))

theorem cnt_le (np en : Nat) (v : Nat → Nat → Bool) : cnt np en v ≤ np * (en + 1) := by
 unfold cnt
 exact Nat.le_trans List.countP_le_length (by simp)

theorem cnt_mark (np en : Nat) (v : Nat → Nat → Bool) (pc pos : Nat) (hpc : pc < np) (hpos : pos ≤ en) (h : v pc pos = false) : cnt np en (Env.mark v pc pos) = cnt np en v + 1 := by
 unfold cnt
 have e1 : (pc * (en + 1) + pos) / (en + 1) = pc := by rw [Nat.mul_comm, Nat.mul_add_div (by omega), Nat.div_eq_of_lt (by omega)]; omega
 have e2 : (pc * (en + 1) + pos) % (en + 1) = pos := by rw [Nat.mul_comm, Nat.mul_add_mod, Nat.mod_eq_of_lt (by omega)]
 rw [countP_one (fun i => v (i / (en + 1)) (i % (en + 1))) _ (pc * (en + 1) + pos) ?_ ?_ ?_ (np * (en + 1))]
 ·rw [if_pos (place_lt hpc hpos)]
 ·intro i hi
  show Env.mark v pc pos _ _ = _
  unfold Env.mark
  rw [if_neg]
  rintro ⟨h1, h2⟩
  apply hi
  have := Nat.div_add_mod i (en + 1)
  rw [h1, h2, Nat.mul_comm] at this
  exact this.symm
 ·show v _ _ = false
  rw [e1, e2]; exact h
 ·show Env.mark v pc pos _ _ = true
  rw [e1, e2]
  unfold Env.mark
  simp

end Go.Rx
-- TYPES 235
namespace Go.Proofs.YtkbmigfkclnlaaaGreatDoor
open Go.RowKit Go.Rx

def jobsCells (l : List Env.Job) : List Value := (l.reverse.map fun j => jobCells j.pc j.arg j.pos).flatten

theorem jobsCells_cons (j : Env.Job) (l : List Env.Job) : jobsCells (j :: l) = jobsCells l ++ jobCells j.pc j.arg j.pos := by
 unfold jobsCells
 simp

theorem jobsCells_length (l : List Env.Job) : (jobsCells l).length = l.length * 3 := by
 induction l with
 | nil => rfl
 | cons j l ih => rw [jobsCells_cons, List.length_append, ih]; simp [jobCells]; omega

def intCells (l : List Int) : List Value := l.map (Value.int .i64)

structure Lay where
 N : Nat
 R : Nat
 PR : Nat
 I : Nat
 np : Nat
 pg : Nat → Inst
 B : Nat
 C : Nat
 MC : Nat
 V : Nat
 en : Nat
 nw : Nat
 nc : Nat
 s : ByteArray
 tB : TypeId
 tC : TypeId
 tM : TypeId
 tV : TypeId
 w0 : World

structure Apart (L : Lay) : Prop where
 B : L.N ≤ L.B
 C : L.N ≤ L.C
 MC : L.N ≤ L.MC
 V : L.N ≤ L.V
 BC : L.B ≠ L.C
 BM : L.B ≠ L.MC
 BV : L.B ≠ L.V
 CM : L.C ≠ L.MC
 CV : L.C ≠ L.V
 MV : L.MC ≠ L.V

def stCells (L : Lay) (J n cj : Nat) : List Value :=
 [.int .i64 L.en, .slice (some ⟨L.C, 0, none⟩) L.nc L.nc, .slice (some ⟨L.MC, 0, none⟩) L.nc L.nc, .slice (some ⟨J, 0, none⟩) n cj, .slice (some ⟨L.V, 0, none⟩) L.nw 8192, .string L.s]

def Stands (L : Lay) (w : World) : Prop := ∃ J n cj, Blk w L.B (stCells L J n cj) L.tB

structure BtMem (L : Lay) (b : Env.BS) (w : World) : Prop where
 prog : ProgAt w L.N L.R L.PR L.I L.np L.pg
 below : Below L.N L.w0 w
 jobs : ∃ J cj, Blk w L.B (stCells L J b.jobs.length cj) L.tB ∧ w.ownsRow L.N 235 3 (.slice (some ⟨J, 0, none⟩) b.jobs.length cj) b.jobs.length (jobsCells b.jobs) ∧ J ≠ L.B ∧ J ≠ L.C ∧ J ≠ L.MC ∧ J ≠ L.V ∧ J < w.heap.size
 vis : ∃ words, VisRep L.np L.en L.nw words b.vis ∧ Blk w L.V (wordCells words) L.tV
 cap : Blk w L.C (intCells b.cap) L.tC
 mcap : Blk w L.MC (intCells b.mcap) L.tM

theorem BtMem.ext {L : Lay} {b : Env.BS} {w : World} (h : BtMem L b w) (y : Ext w) : BtMem L b y.now := by
 have c : Chg [] w y.now := Chg.of_below y.below
 obtain ⟨J, cj, h1, h2, h3, h4, h5, h6, h7⟩ := h.jobs
 obtain ⟨words, v1, v2⟩ := h.vis
 exact
 { prog := h.prog.chg c (by simp)
   below := h.below.trans (c.below h.prog.le (by simp))
   jobs := ⟨J, cj, h1.chg c (by simp), ownsRow_chg h2 c (by simp), h3, h4, h5, h6, Nat.lt_of_lt_of_le h7 c.size⟩
   vis := ⟨words, v1, v2.chg c (by simp)⟩
   cap := h.cap.chg c (by simp)
   mcap := h.mcap.chg c (by simp) }

theorem BtMem.setCap {L : Lay} (ap : Apart L) {b : Env.BS} {w : World} (h : BtMem L b w) (i : Nat) (v : Int) : BtMem L { b with cap := b.cap.set i v } (w.setCell ⟨L.C, i, none⟩ (.int .i64 v)) := by
 have c : Chg [L.C] w (w.setCell ⟨L.C, i, none⟩ (.int .i64 v)) := Chg.set _ _ _ _
 have hC := ap.C
 obtain ⟨J, cj, h1, h2, h3, h4, h5, h6, h7⟩ := h.jobs
 obtain ⟨words, v1, v2⟩ := h.vis
 exact
 { prog := h.prog.chg c (by simpa using hC)
   below := h.below.trans (c.below h.prog.le (by simpa using hC))
   jobs := ⟨J, cj, h1.chg c (by simpa using ap.BC), ownsRow_chg h2 c (by simpa using h4), h3, h4, h5, h6, Nat.lt_of_lt_of_le h7 c.size⟩
   vis := ⟨words, v1, v2.chg c (by simpa using ap.CV.symm)⟩
   cap := by
     have := h.cap.set i (.int .i64 v)
     unfold intCells at this ⊢
     rw [List.map_set]
     exact this
   mcap := h.mcap.chg c (by simpa using ap.CM.symm) }

theorem BtMem.pop {L : Lay} (ap : Apart L) {b : Env.BS} {j : Env.Job} {r : List Env.Job} {w : World} (hb : b.jobs = j :: r) (h : BtMem L b w) :
  ∃ J cj, r.length + 1 ≤ cj ∧ w.cell? ⟨L.B, 3, none⟩ = some (.slice (some ⟨J, 0, none⟩) (r.length + 1) cj) ∧ w.frozen? ⟨L.B, 3, none⟩ = false ∧
   w.cell? ⟨J, r.length * 3, none⟩ = some (.int .u32 j.pc) ∧ w.cell? ⟨J, r.length * 3 + 1, none⟩ = some (.bool j.arg) ∧ w.cell? ⟨J, r.length * 3 + 2, none⟩ = some (.int .i64 j.pos) ∧
   BtMem L { b with jobs := r } (w.setCell ⟨L.B, 3, none⟩ (.slice (some ⟨J, 0, none⟩) r.length cj)) := by
 obtain ⟨J, cj, h1, h2, h3, h4, h5, h6, h7⟩ := h.jobs
 obtain ⟨words, v1, v2⟩ := h.vis
 rw [hb] at h1 h2
 simp only [List.length_cons] at h1 h2
 have c : Chg [L.B] w (w.setCell ⟨L.B, 3, none⟩ (.slice (some ⟨J, 0, none⟩) r.length cj)) := Chg.set _ _ _ _
 have hlen := jobsCells_length r
 have at_ : ∀ k, k < 3 → w.cell? ⟨J, r.length * 3 + k, none⟩ = (jobCells j.pc j.arg j.pos)[k]? := by
  intro k hk
  rw [h2.cellAt (r.length * 3 + k) (by omega), jobsCells_cons, List.getElem?_append_right (by omega), hlen]
  congr 1
  omega
 have hcj : r.length + 1 ≤ cj := by
  rcases h2.2 with ⟨h, _⟩ | ⟨g, cap, cur, hv, _, _, hn, _⟩
  ·cases h
  ·cases hv; exact hn
 have hBN := ap.B
 refine ⟨J, cj, hcj, (h1.cell 3).trans rfl, h1.free 3, at_ 0 (by omega), at_ 1 (by omega), at_ 2 (by omega), ?_⟩
 exact
 { prog := h.prog.chg c (by simpa using hBN)
   below := h.below.trans (c.below h.prog.le (by simpa using hBN))
   jobs := ⟨J, cj, h1.set 3 _, ownsRow_pop hlen (ownsRow_chg (by rw [← jobsCells_cons]; exact h2) c (by simpa using h3)), h3, h4, h5, h6, Nat.lt_of_lt_of_le h7 c.size⟩
   vis := ⟨words, v1, v2.chg c (by simpa using ap.BV.symm)⟩
   cap := h.cap.chg c (by simpa using ap.BC.symm)
   mcap := h.mcap.chg c (by simpa using ap.BM.symm) }

end Go.Proofs.YtkbmigfkclnlaaaGreatDoor
namespace Go.Proofs.YtkbmigfkclnlaaaGreatDoor
open Go.RowKit Go.Rx

structure Bounds (L : Lay) : Prop where
 np : L.np ≤ 500
 en : L.en ≤ 262144
 nw : L.nw ≤ 8192

theorem visit_mem {L : Lay} (ap : Apart L) (bd : Bounds L) {b : Env.BS} {w : World} (h : BtMem L b w) (pc pos : Nat) (hpc : pc < L.np) (hpos : pos ≤ L.en) :
  Calls Tryz.prog 120 #[.pointer (some ⟨L.B, 0, none⟩), .int .u32 pc, .int .i64 pos] w fun e w' => e = .returned (.bool (!b.vis pc pos)) ∧ Chg [L.V] w w' ∧ BtMem L { b with vis := Env.mark b.vis pc pos } w' := by
 obtain ⟨J, cj, h1, h2, h3, h4, h5, h6, h7⟩ := h.jobs
 obtain ⟨words, v1, v2⟩ := h.vis
 refine (visit v1 bd.np bd.en bd.nw L.B L.V 8192 _ L.tB L.tV w h1 rfl rfl v2 pc pos hpc hpos).mono ?_
 rintro e w' ⟨he, words', r1, r2, c⟩
 have hV := ap.V
 refine ⟨he, c, ?_⟩
 exact
 { prog := h.prog.chg c (by simpa using hV)
   below := h.below.trans (c.below h.prog.le (by simpa using hV))
   jobs := ⟨J, cj, h1.chg c (by simpa using ap.BV), ownsRow_chg h2 c (by simpa using h6), h3, h4, h5, h6, Nat.lt_of_lt_of_le h7 c.size⟩
   vis := ⟨words', r1, r2⟩
   cap := h.cap.chg c (by simpa using ap.CV)
   mcap := h.mcap.chg c (by simpa using ap.MV) }

theorem push_mem {L : Lay} (ap : Apart L) (bd : Bounds L) {b : Env.BS} {w : World} (h : BtMem L b w) (pc : Nat) (hp0 : 0 < pc) (hpc : pc < L.np) (hop : (L.pg pc).op ≠ 5) (hn : b.jobs.length < 1000000000) (pos : Int) :
  Calls Tryz.prog 119 #[.pointer (some ⟨L.B, 0, none⟩), .pointer (some ⟨L.R, 0, none⟩), .int .u32 pc, .int .i64 pos, .bool true] w fun e w' => e = .returned (.tuple #[]) ∧ BtMem L { b with jobs := ⟨pc, true, pos⟩ :: b.jobs } w' := by
 obtain ⟨J, cj, h1, h2, h3, h4, h5, h6, h7⟩ := h.jobs
 obtain ⟨words, v1, v2⟩ := h.vis
 refine (push_true L.N L.R L.PR L.I L.np L.pg w h.prog pc hp0 hpc bd.np hop L.B J b.jobs.length cj L.N _ L.tB _ h1 rfl h2 h3 hn h.prog.le pos).mono ?_
 rintro e w' ⟨he, J', cj', q1, q2, q3, c⟩
 have hB := ap.B
 have hJN : L.N ≤ J := (h2.lt J rfl).1
 have hBl := h1.lt
 have hCl := h.cap.lt
 have hMl := h.mcap.lt
 have hVl := v2.lt
 have hS : ∀ x, x ∈ [L.B, J] → L.N ≤ x := by
  intro x hx
  simp at hx
  omega
 refine ⟨he, ?_⟩
 exact
 { prog := h.prog.chg c hS
   below := h.below.trans (c.below h.prog.le hS)
   jobs := ⟨J', cj', q1, by rw [jobsCells_cons]; exact q2, by omega, by omega, by omega, by omega, (q2.lt J' rfl).2⟩
   vis := ⟨words, v1, v2.chg c (by simp; exact ⟨fun e => ap.BV e.symm, fun e => h6 e.symm⟩)⟩
   cap := h.cap.chg c (by simp; exact ⟨fun e => ap.BC e.symm, fun e => h4 e.symm⟩)
   mcap := h.mcap.chg c (by simp; exact ⟨fun e => ap.BM e.symm, fun e => h5 e.symm⟩) }

theorem push_first_mem {L : Lay} (ap : Apart L) (bd : Bounds L) {b : Env.BS} {w : World} (h : BtMem L b w) (pc : Nat) (hp0 : 0 < pc) (hpc : pc < L.np) (hop : (L.pg pc).op ≠ 5) (hn : b.jobs.length < 1000000000) (pos : Nat) (hpos : pos ≤ L.en) (hv : b.vis pc pos = false) :
  Calls Tryz.prog 119 #[.pointer (some ⟨L.B, 0, none⟩), .pointer (some ⟨L.R, 0, none⟩), .int .u32 pc, .int .i64 pos, .bool false] w fun e w' => e = .returned (.tuple #[]) ∧ BtMem L { b with jobs := ⟨pc, false, pos⟩ :: b.jobs, vis := Env.mark b.vis pc pos } w' := by
 have hvis := visit_mem ap bd h pc pos hpc hpos
 rw [hv] at hvis
 obtain ⟨J, cj, h1, h2, h3, h4, h5, h6, h7⟩ := h.jobs
 refine (push_first L.N L.R L.PR L.I L.np L.V (BtMem L { b with vis := Env.mark b.vis pc pos }) L.pg w h.prog pc hp0 hpc bd.np hop L.B J b.jobs.length cj L.N _ L.tB _ h1 rfl h2 h3 hn h.prog.le pos (fun e => ap.BV e.symm) (fun e => h6 e.symm) hvis).mono ?_
 rintro e w' ⟨he, w1, J', cj', g, c0, q1, q2, q3, c⟩
 have hB := ap.B
 have hJN : L.N ≤ J := (h2.lt J rfl).1
 obtain ⟨words, v1, v2⟩ := g.vis
 have hs := c0.size
 have hBl := h1.lt
 have hCl := g.cap.lt
 have hMl := g.mcap.lt
 have hVl := v2.lt
 have hS : ∀ x, x ∈ [L.B, J] → L.N ≤ x := by
  intro x hx
  simp at hx
  omega
 refine ⟨he, ?_⟩
 exact
 { prog := g.prog.chg c hS
   below := g.below.trans (c.below g.prog.le hS)
   jobs := ⟨J', cj', q1, by rw [jobsCells_cons]; exact q2, by omega, by omega, by omega, by omega, (q2.lt J' rfl).2⟩
   vis := ⟨words, v1, v2.chg c (by simp; exact ⟨fun e => ap.BV e.symm, fun e => h6 e.symm⟩)⟩
   cap := g.cap.chg c (by simp; exact ⟨fun e => ap.BC e.symm, fun e => h4 e.symm⟩)
   mcap := g.mcap.chg c (by simp; exact ⟨fun e => ap.BM e.symm, fun e => h5 e.symm⟩) }

end Go.Proofs.YtkbmigfkclnlaaaGreatDoor
namespace Go.Proofs.YtkbmigfkclnlaaaGreatDoor
open Go.RowKit Go.Rx

def FillIs (B C n : Nat) (bl : List Value) (tB : TypeId) (w0 : World) (k : Nat) (w : World) : Prop :=
 Blk w B bl tB ∧ Blk w C (List.replicate k (.int .i64 (-1)) ++ List.replicate (n - k) (.int .i64 0)) 3 ∧ Chg [C] w0 w

theorem FillIs.next {B C n : Nat} {bl : List Value} {tB : TypeId} {w0 w : World} {k : Nat} (h : FillIs B C n bl tB w0 k w) (hk : k < n) (hBC : B ≠ C) : FillIs B C n bl tB w0 (k + 1) (w.setCell ⟨C, k, none⟩ (.int .i64 (-1))) := by
 obtain ⟨h1, h2, h3⟩ := h
 refine ⟨h1.set_other hBC k _, ?_, (h3.trans (Chg.set w C k _)).mono (fun b hb _ => by simpa using hb)⟩
 have := h2.set k (.int .i64 (-1))
 have e : (List.replicate k (Value.int .i64 (-1)) ++ List.replicate (n - k) (Value.int .i64 0)).set k (.int .i64 (-1)) = List.replicate (k + 1) (Value.int .i64 (-1)) ++ List.replicate (n - (k + 1)) (Value.int .i64 0) := by
  rw [List.set_append_right _ _ (by simp), List.length_replicate, Nat.sub_self, show n - k = (n - (k + 1)) + 1 by omega, List.replicate_succ, List.set_cons_zero, List.replicate_succ', List.append_assoc]
  rfl
 rw [e] at this
 exact this

theorem u32_info : (Tryz.prog.info? 86).map (fun i => (i.zero, i.size, i.bytes)) = some (some (.int .u32 0), 1, 4) := by kernel_rfl
theorem int_info : (Tryz.prog.info? 3).map (fun i => (i.zero, i.size, i.bytes)) = some (some (.int .i64 0), 1, 8) := by kernel_rfl

structure Laid (w w' : World) (B C MC V J en nc nw : Nat) (s : ByteArray) (tB : TypeId) : Prop where
 chg : Chg [B] w w'
 b : Blk w' B [.int .i64 en, .slice (some ⟨C, 0, none⟩) nc nc, .slice (some ⟨MC, 0, none⟩) nc nc, .slice (some ⟨J, 0, none⟩) 0 256, .slice (some ⟨V, 0, none⟩) nw 8192, .string s] tB
 j : Blk w' J (madeCells #[.int .u32 0, .bool false, .int .i64 0] 768).toList 235
 v : Blk w' V (madeCells #[.int .u32 0] 8192).toList 86
 c : Blk w' C (List.replicate nc (.int .i64 (-1))) 3
 m : Blk w' MC (List.replicate nc (.int .i64 (-1))) 3
 new : w.heap.size ≤ C ∧ w.heap.size ≤ MC ∧ w.heap.size ≤ V ∧ w.heap.size ≤ J
 apart : C ≠ MC ∧ C ≠ V ∧ C ≠ J ∧ MC ≠ V ∧ MC ≠ J ∧ V ≠ J

theorem fill_end {B C n : Nat} {bl : List Value} {tB : TypeId} {w0 w : World} (h : FillIs B C n bl tB w0 n w) : Blk w C (List.replicate n (.int .i64 (-1))) 3 := by
 have := h.2.1
 rw [Nat.sub_self, List.replicate_zero, List.append_nil] at this
 exact this

set_option maxRecDepth 1000000 in
set_option maxHeartbeats 4000000 in
theorem reset_any (N R PR I np : Nat) (pg : Nat → Inst) (w : World) (hP : ProgAt w N R PR I np pg) (hnp : np ≤ 500) (hnp0 : 0 < np) (B en nc nw : Nat) (s : ByteArray) (tB : TypeId) (hB : Blk w B [.int .i64 0, .slice none 0 0, .slice none 0 0, .slice none 0 0, .slice none 0 0, .string s] tB)
  (hNB : N ≤ B) (hen : en ≤ 262144) (hnc : 2 ≤ nc) (hnc2 : nc < 100) (hnw : (np * (en + 1) + 31) / 32 = nw) (hnw2 : nw ≤ 8192) (hnw0 : 0 < nw) :
  Calls Tryz.prog 103 #[.pointer (some ⟨B, 0, none⟩), .pointer (some ⟨PR, 0, none⟩), .int .i64 en, .int .i64 nc] w fun e w' => e = .returned (.tuple #[]) ∧ ∃ C MC V J, Laid w w' B C MC V J en nc nw s tB := by
 obtain ⟨ci, hp2⟩ := hP.insts
 have h0 : w.cell? ⟨B, 0, none⟩ = some (.int .i64 0) := (hB.cell 0).trans rfl
 have h1 : w.cell? ⟨B, 1, none⟩ = some (.slice none 0 0) := (hB.cell 1).trans rfl
 have h2 : w.cell? ⟨B, 2, none⟩ = some (.slice none 0 0) := (hB.cell 2).trans rfl
 have h3 : w.cell? ⟨B, 3, none⟩ = some (.slice none 0 0) := (hB.cell 3).trans rfl
 have h4 : w.cell? ⟨B, 4, none⟩ = some (.slice none 0 0) := (hB.cell 4).trans rfl
 have f0 := hB.free 0
 have f1 := hB.free 1
 have f2 := hB.free 2
 have f3 := hB.free 3
 have f4 := hB.free 4
 have hBl := hB.lt
 have hPB := hP.lt
 have hle := hP.le
 obtain ⟨M, hMd⟩ : ∃ M, M = np * (en + 1) := ⟨_, rfl⟩
 have hMb : M < 1000000000 := by
  have : np * (en + 1) ≤ 500 * 262145 := Nat.mul_le_mul hnp (by omega)
  omega
 have hM : (np : Int) * ((en : Int) + 1) = (M : Int) := by rw [hMd]; simp
 rw [← hMd] at hnw
 have hMq : ((M : Int) + 32 - 1) / 32 = (nw : Int) := by omega
 have HW := Lib.hid hnw
 have HD := Lib.hid hMd
 clear hnw hMd
 go_enter Tryz.func103, Tryz.ntmps103
 go_wp2_with (at_make; refine make_blk _ rfl (.const (.int .i64 0)) (.const (.int .i64 256)) 202 235 rfl _ 3 16 Tryz.underlying202 job_info .i64 .i64 0 256 rfl rfl (by omega) (by omega) (by omega) w.heap.size (by simp) ?_)
 intro w1 b1 c1 z1
 have hB0 : Blk (w.setCell ⟨B, 0, none⟩ (.int .i64 en)) B [.int .i64 en, .slice none 0 0, .slice none 0 0, .slice none 0 0, .slice none 0 0, .string s] tB := hB.set 0 _
 have hB1 := hB0.chg c1 (by simp)
 have g3 := hB1.free 3
 have p3 : w1.cell? ⟨B, 3, none⟩ = some (.slice none 0 0) := (hB1.cell 3).trans rfl
 have p4 : w1.cell? ⟨B, 4, none⟩ = some (.slice none 0 0) := (hB1.cell 4).trans rfl
 have hPB' : PR ≠ B := by omega
 have q2 : w1.cell? ⟨PR, 0, none⟩ = some (.slice (some ⟨I, 0, none⟩) np ci) := by
  rw [World.cell?_of_block (c1.block PR (by simp [World.setCell]; omega) (by simp)), World.cell?_of_block (Below.heap_setCell _ _ _ _ hPB')]
  exact hp2
 have K1 := Lib.hid b1
 have K2 := Lib.hid c1
 have K3 := Lib.hid z1
 have K4 := Lib.hid hB1
 have K5 := Lib.hid hB0
 clear b1 c1 z1 hB1 hB0 h0 h1 h2 h3 h4 f0 f1 f2 f3 f4
 have hMp : (0 : Int) < (nw : Int) := by omega
 have hz1 : ((w1.setCell ⟨B, 3, none⟩ (.slice (some ⟨w.heap.size, 0, none⟩) 0 256))).heap.size = w.heap.size + 1 := by simp [World.setCell]; exact K3.out
 have HZ1 := Lib.hid hz1
 clear hz1
 go_wp2_with (at_make; refine make_blk _ rfl (.tmp 52) (.const (.int .i64 8192)) 77 86 rfl _ 1 4 Tryz.underlying77 u32_info .i64 .i64 nw 8192 (congrArg (Value.int .i64) hMq) rfl hnw2 (by omega) (by omega) (w.heap.size + 1) HZ1.out ?_)
 intro w2 b2 c2 z2
 have hB2 : Blk w2 B [.int .i64 en, .slice none 0 0, .slice none 0 0, .slice (some ⟨w.heap.size, 0, none⟩) 0 256, .slice none 0 0, .string s] tB := (K4.out.set 3 _).chg c2 (by simp)
 have g4 := hB2.free 4
 have r4 : w2.cell? ⟨B, 4, none⟩ = some (.slice none 0 0) := (hB2.cell 4).trans rfl
 have r1 : w2.cell? ⟨B, 1, none⟩ = some (.slice none 0 0) := (hB2.cell 1).trans rfl
 have hzz : ((w2.setCell ⟨B, 4, none⟩ (.slice (some ⟨w.heap.size + 1, 0, none⟩) nw 8192))).heap.size = w.heap.size + 2 := by simp [World.setCell]; omega
 have HZ2 := Lib.hid hzz
 have L1 := Lib.hid b2
 have L2 := Lib.hid c2
 have L3 := Lib.hid z2
 have L4 := Lib.hid hB2
 have hncp : (0 : Int) < (nc : Int) := by omega
 clear b2 c2 z2 hB2 hzz g3 p3 p4 q2 hMq hM
 go_wp2_with (at_make; refine make_blk _ rfl (.tmp 77) (.tmp 77) 128 3 rfl _ 1 8 Tryz.underlying128 int_info .i64 .i64 nc nc rfl rfl (Nat.le_refl _) (by omega) (by omega) (w.heap.size + 2) HZ2.out ?_)
 intro w3 b3 c3 z3
 have hB3 : Blk w3 B [.int .i64 en, .slice none 0 0, .slice none 0 0, .slice (some ⟨w.heap.size, 0, none⟩) 0 256, .slice (some ⟨w.heap.size + 1, 0, none⟩) nw 8192, .string s] tB := (L4.out.set 4 _).chg c3 (by simp)
 have g1 := hB3.free 1
 have t1 : w3.cell? ⟨B, 1, none⟩ = some (.slice none 0 0) := (hB3.cell 1).trans rfl
 have M1 := Lib.hid b3
 have M2 := Lib.hid c3
 have M3 := Lib.hid z3
 have M4 := Lib.hid hB3
 clear b3 c3 z3 hB3 g4 r4 r1
 go_wp2_with fail
 obtain ⟨w4, hw4⟩ : ∃ w4, w4 = w3.setCell ⟨B, 1, none⟩ (.slice (some ⟨w.heap.size + 2, 0, none⟩) nc nc) := ⟨_, rfl⟩
 rw [← hw4]
 have hB4 : Blk w4 B [.int .i64 en, .slice (some ⟨w.heap.size + 2, 0, none⟩) nc nc, .slice none 0 0, .slice (some ⟨w.heap.size, 0, none⟩) 0 256, .slice (some ⟨w.heap.size + 1, 0, none⟩) nw 8192, .string s] tB := by rw [hw4]; exact M4.out.set 1 _
 have hne : w.heap.size + 2 ≠ B := by omega
 have hC4 : Blk w4 (w.heap.size + 2) (List.replicate nc (.int .i64 0)) 3 := by
  have := M1.out.set_other (c := B) hne 1 (.slice (some ⟨w.heap.size + 2, 0, none⟩) nc nc)
  rw [hw4]
  rw [made_one] at this
  exact this
 have hF : FillIs B (w.heap.size + 2) nc [.int .i64 en, .slice (some ⟨w.heap.size + 2, 0, none⟩) nc nc, .slice none 0 0, .slice (some ⟨w.heap.size, 0, none⟩) 0 256, .slice (some ⟨w.heap.size + 1, 0, none⟩) nw 8192, .string s] tB w4 0 w4 := ⟨hB4, by simpa using hC4, (Chg.refl w4).mono (fun _ h => by cases h)⟩
 have HF := Lib.hid hF
 have HW4 := Lib.hid hw4
 clear hF hw4 hB4 hC4 g1 t1
 go_loopw [95] (fun t wr => ∃ k : Nat, k ≤ nc ∧ t = .int .i64 k ∧ FillIs B (w.heap.size + 2) nc [.int .i64 en, .slice (some ⟨w.heap.size + 2, 0, none⟩) nc nc, .slice none 0 0, .slice (some ⟨w.heap.size, 0, none⟩) 0 256, .slice (some ⟨w.heap.size + 1, 0, none⟩) nw 8192, .string s] tB w4 k wr) (fun t _ => nc - (intOf t).toNat)
 case atStart => exact ⟨0, Nat.zero_le _, rfl, HF.out⟩
 case round =>
  obtain ⟨k, hk, rfl, hfi⟩ := hrel
  have hne' : B ≠ w.heap.size + 2 := by omega
  have hfB := hfi.1
  have hfC := hfi.2.1
  have c1 : wr.cell? ⟨B, 1, none⟩ = some (.slice (some ⟨w.heap.size + 2, 0, none⟩) nc nc) := (hfB.cell 1).trans rfl
  have c2 : wr.cell? ⟨B, 2, none⟩ = some (.slice none 0 0) := (hfB.cell 2).trans rfl
  have g2 : wr.frozen? ⟨B, 2, none⟩ = false := hfB.free 2
  have hCl := hfC.lt
  have hBl' := hfB.lt
  by_cases hlt : k < nc
  ·have hlt' : (k : Int) < (nc : Int) := by omega
   have d1 : wr.cell? ⟨w.heap.size + 2, k, none⟩ = some (.int .i64 0) := by
    rw [hfC.cell, List.getElem?_append_right (by simp), List.length_replicate, Nat.sub_self, List.getElem?_replicate, if_pos (by omega)]
   have d2 := hfC.free k
   have HN := Lib.hid (hfi.next hlt hne')
   clear hfi hfB hfC
   go_wp2_with fail
   go_roundw
   case rel => exact ⟨k + 1, by omega, by simp, HN.out⟩
   case measure => simp [intOf]; omega
  ·have hkn : k = nc := by omega
   subst hkn
   have hlt' : ¬ ((k : Int) < (k : Int)) := by omega
   have HF2 := Lib.hid hfi
   clear hfi hfB hfC
   have hwz : w.heap.size + 3 ≤ wr.heap.size := by
    have h4 := HF2.out.2.2.size
    have h3 : w4.heap.size = w3.heap.size := by rw [HW4.out]; simp [World.setCell]
    have := M3.out
    omega
   obtain ⟨D, hD⟩ : ∃ D, wr.heap.size = D := ⟨_, rfl⟩
   have HDD := Lib.hid hD
   rw [hD] at hwz
   have HWZ := Lib.hid hwz
   clear hD hwz
   go_wp2_with (at_make; refine make_blk _ rfl (.tmp 113) (.tmp 113) 128 3 rfl _ 1 8 Tryz.underlying128 int_info .i64 .i64 k k rfl rfl (Nat.le_refl _) (by omega) (by omega) D HDD.out ?_)
   intro w5 b5 c5 z5
   have hB5 := HF2.out.1.chg c5 (by simp)
   have hC5 := (fill_end HF2.out).chg c5 (by simp)
   have g2' := hB5.free 2
   have t2 : w5.cell? ⟨B, 2, none⟩ = some (.slice none 0 0) := (hB5.cell 2).trans rfl
   have hs5 : (w5.setCell ⟨B, 2, none⟩ (.slice (some ⟨D, 0, none⟩) k k)).heap.size = D + 1 := by simp [World.setCell]; exact z5
   have b6 := hB5.set 2 (.slice (some ⟨D, 0, none⟩) k k)
   have hDB : D ≠ B := by have := HWZ.out; omega
   have hCB : w.heap.size + 2 ≠ B := by omega
   have d6 := b5.set_other (c := B) hDB 2 (.slice (some ⟨D, 0, none⟩) k k)
   have C6 := hC5.set_other (c := B) hCB 2 (.slice (some ⟨D, 0, none⟩) k k)
   have c6 := c5.trans (Chg.set w5 B 2 (.slice (some ⟨D, 0, none⟩) k k))
   rw [made_one] at d6
   have N1 := Lib.hid b6
   have N2 := Lib.hid d6
   have N3 := Lib.hid C6
   have N4 := Lib.hid c6
   have N5 := Lib.hid hs5
   clear b5 c5 z5 hB5 hC5 b6 d6 C6 c6 hs5 c1 c2 g2
   go_wp2_with fail
   obtain ⟨w6, hw6⟩ : ∃ w6, w6 = w5.setCell ⟨B, 2, none⟩ (.slice (some ⟨D, 0, none⟩) k k) := ⟨_, rfl⟩
   rw [← hw6] at N1 N2 N3 N4 N5 ⊢
   clear hw6
   have ca := (Chg.set w1 B 3 (.slice (some ⟨w.heap.size, 0, none⟩) 0 256)).trans L2.out
   have cb := (Chg.set w2 B 4 (.slice (some ⟨w.heap.size + 1, 0, none⟩) nw 8192)).trans M2.out
   have cc : Chg [B] w3 w4 := by rw [HW4.out]; exact Chg.set _ _ _ _
   have ce := (cb.trans (cc.trans (HF2.out.2.2.trans N4.out)))
   have cf := ca.trans ce
   have c0 := ((Chg.set w B 0 (.int .i64 en)).trans K2.out).trans cf
   have PC := Lib.hid c0
   have PJ := Lib.hid (K1.out.chg cf (by simp; omega))
   have PV := Lib.hid (L1.out.chg ce (by simp; omega))
   have PS := Lib.hid (show w6.heap.size = D + 1 from N5.out)
   clear ca cb cc ce cf c0
   have hF2 : FillIs B D k _ tB w6 0 w6 := ⟨N1.out, by simpa using N2.out, (Chg.refl w6).mono (fun _ h => by cases h)⟩
   have HG := Lib.hid hF2
   clear hF2 g2' t2
   go_loopw [131] (fun t wr => ∃ j : Nat, j ≤ k ∧ t = .int .i64 j ∧ FillIs B D k [.int .i64 en, .slice (some ⟨w.heap.size + 2, 0, none⟩) k k, .slice (some ⟨D, 0, none⟩) k k, .slice (some ⟨w.heap.size, 0, none⟩) 0 256, .slice (some ⟨w.heap.size + 1, 0, none⟩) nw 8192, .string s] tB w6 j wr) (fun t _ => k - (intOf t).toNat)
   case atStart => exact ⟨0, Nat.zero_le _, rfl, HG.out⟩
   case round =>
    obtain ⟨j, hj, rfl, hfi⟩ := hrel
    have hfB := hfi.1
    have hfC := hfi.2.1
    have c2 : wr.cell? ⟨B, 2, none⟩ = some (.slice (some ⟨D, 0, none⟩) k k) := (hfB.cell 2).trans rfl
    have hCl := hfC.lt
    have hBl' := hfB.lt
    by_cases hlt : j < k
    ·have hlt' : (j : Int) < (k : Int) := by omega
     have d1 : wr.cell? ⟨D, j, none⟩ = some (.int .i64 0) := by
      rw [hfC.cell, List.getElem?_append_right (by simp), List.length_replicate, Nat.sub_self, List.getElem?_replicate, if_pos (by omega)]
     have d2 := hfC.free j
     have HN := Lib.hid (hfi.next hlt (Ne.symm hDB))
     clear hfi hfB hfC
     go_wp2_with fail
     go_roundw
     case rel => exact ⟨j + 1, by omega, by simp, HN.out⟩
     case measure => simp [intOf]; omega
    ·have hkn : j = k := by omega
     subst hkn
     have hlt' : ¬ ((j : Int) < (j : Int)) := by omega
     have HF3 := Lib.hid hfi
     clear hfi hfB hfC
     go_wp2_with fail
     go_end0
     have hDw := HWZ.out
     have cz := HF3.out.2.2
     refine ⟨rfl, w.heap.size + 2, D, w.heap.size + 1, w.heap.size, ?_⟩
     exact
     { chg := (PC.out.trans cz).mono (by
       intro b hb hlt
       simp at hb ⊢
       omega)
       b := HF3.out.1
       j := PJ.out.chg cz (by simp; omega)
       v := PV.out.chg cz (by simp; omega)
       c := N3.out.chg cz (by simp; omega)
       m := fill_end HF3.out
       new := ⟨by omega, by omega, by omega, by omega⟩
       apart := ⟨by omega, by omega, by omega, by omega, by omega, by omega⟩ }

end Go.Proofs.YtkbmigfkclnlaaaGreatDoor
namespace Go.Proofs.YtkbmigfkclnlaaaGreatDoor
open Go.RowKit Go.Rx

theorem new_bit (w : World) : Calls Tryz.prog 102 #[] w fun e w' => e = .returned (.pointer (some ⟨w.heap.size, 0, none⟩)) ∧
  Blk w' w.heap.size [.int .i64 0, .slice none 0 0, .slice none 0 0, .slice none 0 0, .slice none 0 0, .string ByteArray.empty] 204 ∧ Chg [] w w' ∧ w'.heap.size = w.heap.size + 1 := by
 go_enter Tryz.func102, Tryz.ntmps102
 go_wp2_with fail
 go_ret
 exact ⟨rfl, Blk.new _ _ _, Chg.alloc _ _, by simp⟩

theorem new_string (w : World) (B o : Nat) (s v : ByteArray) (h : w.cell? ⟨B, o, none⟩ = some (.string v)) (hf : w.frozen? ⟨B, o, none⟩ = false) (hB : B < w.heap.size) :
  Calls Tryz.prog 106 #[.pointer (some ⟨B, o, none⟩), .string s] w fun e w' => e = .returned (.iface 237 (.pointer (some ⟨B, o, none⟩))) ∧ w' = w.setCell ⟨B, o, none⟩ (.string s) := by
 go_enter Tryz.func106, Tryz.ntmps106
 go_wp2_with fail
 go_ret
 exact ⟨rfl, rfl⟩

theorem inputs_init (w : World) (B o : Nat) (s v : ByteArray) (hs : s.size < 100000000000) (h : w.cell? ⟨B, o, none⟩ = some (.string v)) (hf : w.frozen? ⟨B, o, none⟩ = false) (hB : B < w.heap.size) :
  Calls Tryz.prog 85 #[.pointer (some ⟨B, o, none⟩), .nilIface, .slice none 0 0, .string s] w fun e w' => e = .returned (.tuple #[.iface 237 (.pointer (some ⟨B, o, none⟩)), .int .i64 s.size]) ∧ w' = w.setCell ⟨B, o, none⟩ (.string s) := by
 have hn := new_string w B o s v h hf hB
 go_enter Tryz.func85, Tryz.ntmps85
 go_wp2_with (first | (go_at_call 106; (with_reducible refine hn.mono ?_); rintro e w' ⟨rfl, rfl⟩))
 go_ret2
 exact ⟨rfl, rfl⟩

theorem inputs_clear (w : World) (B o : Nat) (v : ByteArray) (h : w.cell? ⟨B, o, none⟩ = some (.string v)) (hf : w.frozen? ⟨B, o, none⟩ = false) (hB : B < w.heap.size) :
  Calls Tryz.prog 111 #[.pointer (some ⟨B, o, none⟩)] w fun e w' => e = .returned (.tuple #[]) ∧ w' = w.setCell ⟨B, o, none⟩ (.string ByteArray.empty) := by
 go_enter Tryz.func111, Tryz.ntmps111
 go_wp2_with fail
 go_end0
 exact ⟨rfl, rfl⟩

theorem free_bit (w : World) (B : Nat) (v : ByteArray) (h : w.cell? ⟨B, 5, none⟩ = some (.string v)) (hf : w.frozen? ⟨B, 5, none⟩ = false) (hB : B < w.heap.size) :
  Calls Tryz.prog 105 #[.pointer (some ⟨B, 0, none⟩)] w fun e w' => e = .returned (.tuple #[]) ∧ w' = w.setCell ⟨B, 5, none⟩ (.string ByteArray.empty) := by
 have hn := inputs_clear w B 5 v h hf hB
 go_enter Tryz.func105, Tryz.ntmps105
 go_wp2_with (first | (go_at_call 111; (with_reducible refine hn.mono ?_); rintro e w' ⟨rfl, rfl⟩))
 go_end0
 exact ⟨rfl, rfl⟩

end Go.Proofs.YtkbmigfkclnlaaaGreatDoor
namespace Go.Proofs.YtkbmigfkclnlaaaGreatDoor
open Go.RowKit Go.Rx

def firstLoop : Code → Option Code
 | .loop c => some c
 | .seq a b => match firstLoop a with
  | some c => some c
  | none => firstLoop b
 | .block _ c => firstLoop c
 | .scope c => firstLoop c
 | .cond _ a b => match firstLoop a with
  | some c => some c
  | none => firstLoop b
 | _ => none

def firstScope : Code → Option Code
 | .scope c => some c
 | .loop c => firstScope c
 | .seq a b => match firstScope a with
  | some c => some c
  | none => firstScope b
 | .block _ c => firstScope c
 | .cond _ a b => match firstScope a with
  | some c => some c
  | none => firstScope b
 | _ => none

noncomputable def btLoop : Code := (Tryz.f104.body.bind firstLoop).getD .skip
noncomputable def btScope : Code := (firstScope btLoop).getD .skip
noncomputable def btRest (l : Nat) : Code := (findLabel btScope l).getD .skip

theorem bt_label0 : findLabel btScope 0 = some (btRest 0) := by kernel_rfl
theorem bt_label1 : findLabel btScope 1 = some (btRest 1) := by kernel_rfl

noncomputable def btTail : Code := match btRest 0 with
 | .seq _ c => c
 | c => c
theorem bt_tail : btRest 0 = Code.skip.seq btTail := by kernel_rfl

end Go.Proofs.YtkbmigfkclnlaaaGreatDoor
