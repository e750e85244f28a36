/-
FnRefNormalSelf: the regular expressions, the digest and the reference, part 18 of 26.
-/
import Derived.Test.YtkbmigfkclnlaaaGreatDoorV17
import Derived.Test.YtkbmigfkclnlaaaGreatDoorV04
import Derived.Great.BuildSlice
set_option linter.all false
namespace Go.Rx

structure Run where
 n : Nat
 op : Nat
 out : Nat
 dout : Int
 arg : Nat
 darg : Int
 rune : List Int

def Run.inst (r : Run) (k : Nat) : Inst := ⟨r.op, ((r.out : Int) + k * r.dout).toNat, ((r.arg : Int) + k * r.darg).toNat, r.rune⟩
def Run.insts (r : Run) : List Inst := (List.range r.n).map r.inst
def expand (l : List Run) : List Inst := l.flatMap Run.insts

def deaf : Inst := ⟨8, 0, 0, [-2]⟩
def progOf (l : List Inst) (pc : Nat) : Inst := if pc = 0 then deaf else l.getD pc deaf
def rankOf (l : List Nat) (pc : Nat) : Nat := l.getD pc 0

def instOk (np nc : Nat) (rank : Nat → Nat) (cls : List Int → Bool) (pc : Nat) (i : Inst) : Bool :=
 (i.op == 0 && decide (0 < i.out) && decide (i.out < np) && decide (0 < i.arg) && decide (i.arg < np) && decide (rank i.out < rank pc) && decide (rank i.arg < rank pc) && i.rune.isEmpty) ||
 (i.op == 2 && decide (0 < i.out) && decide (i.out < np) && decide (i.arg < nc) && decide (rank i.out < rank pc) && i.rune.isEmpty) ||
 (i.op == 3 && decide (0 < i.out) && decide (i.out < np) && (i.arg == 4 || i.arg == 8) && decide (rank i.out < rank pc) && i.rune.isEmpty) ||
 (i.op == 4 && i.rune.isEmpty) ||
 (i.op == 6 && decide (0 < i.out) && decide (i.out < np) && decide (rank i.out < rank pc) && i.rune.isEmpty) ||
 (i.op == 7 && decide (0 < i.out) && decide (i.out < np) && cls i.rune) ||
 (i.op == 8 && decide (0 < i.out) && decide (i.out < np) && decide (i.rune.length = 1) && decide (0 ≤ i.rune.getD 0 (-1)))

def tableOk (l : List Inst) (nc : Nat) (rl : List Nat) (top : Nat) (cls : List Int → Bool) : Bool :=
 (List.range l.length).all fun pc => pc == 0 || instOk l.length nc (rankOf rl) cls pc (progOf l pc)

end Go.Rx
namespace Go.Proofs.YtkbmigfkclnlaaaGreatDoor
open Go.RowKit Go.Rx

def clsOk (l : List Int) : Bool := (l.length == 1 || l.length == 2 || l.length == 4 || l.length == 6 || l.length == 8 || l.length == 10) && classTakes l (-1) == false

structure Fit (l : List Inst) (nc : Nat) (rank : Nat → Nat) (pc : Nat) : Prop where
 ops : (progOf l pc).op = 0 ∨ (progOf l pc).op = 2 ∨ (progOf l pc).op = 3 ∨ (progOf l pc).op = 4 ∨ (progOf l pc).op = 6 ∨ (progOf l pc).op = 7 ∨ (progOf l pc).op = 8
 out : (progOf l pc).op ≠ 4 → 0 < (progOf l pc).out ∧ (progOf l pc).out < l.length
 alt : (progOf l pc).op = 0 → 0 < (progOf l pc).arg ∧ (progOf l pc).arg < l.length
 cap : (progOf l pc).op = 2 → (progOf l pc).arg < nc
 ew : (progOf l pc).op = 3 → (progOf l pc).arg = 4 ∨ (progOf l pc).arg = 8
 cls : (progOf l pc).op = 7 → ClassLen (progOf l pc).rune.length ∧ classTakes (progOf l pc).rune (-1) = false
 one : (progOf l pc).op = 8 → ∃ x, (progOf l pc).rune = [x] ∧ 0 ≤ x
 nil : (progOf l pc).op ≠ 7 → (progOf l pc).op ≠ 8 → (progOf l pc).rune = []
 ralt : (progOf l pc).op = 0 → rank (progOf l pc).out < rank pc ∧ rank (progOf l pc).arg < rank pc
 rfree : (progOf l pc).op = 2 ∨ (progOf l pc).op = 3 ∨ (progOf l pc).op = 6 → rank (progOf l pc).out < rank pc

theorem fit_of {l : List Inst} {nc : Nat} {rl : List Nat} {top : Nat} (h : tableOk l nc rl top clsOk = true) {pc : Nat} (h0 : 0 < pc) (h1 : pc < l.length) : Fit l nc (rankOf rl) pc := by
 have h2 := (List.all_eq_true.1 h) pc (List.mem_range.2 h1)
 have h3 : (pc == 0) = false := by simp; omega
 rw [h3, Bool.false_or] at h2
 obtain ⟨i, hi⟩ : ∃ i, progOf l pc = i := ⟨_, rfl⟩
 rw [hi] at h2
 simp only [instOk, Bool.or_eq_true, Bool.and_eq_true, beq_iff_eq, decide_eq_true_eq, List.isEmpty_iff] at h2
 have key : (i.op = 7 → ClassLen i.rune.length ∧ classTakes i.rune (-1) = false) ∧ (i.op = 8 → ∃ x, i.rune = [x] ∧ 0 ≤ x) := by
  refine ⟨fun e => ?_, fun e => ?_⟩
  ·have h4 : clsOk i.rune = true := by
    rcases h2 with (((((h2 | h2) | h2) | h2) | h2) | h2) | h2
    ·omega
    ·omega
    ·omega
    ·omega
    ·omega
    ·exact h2.2
    ·omega
   unfold clsOk at h4
   simp only [Bool.or_eq_true, Bool.and_eq_true, beq_iff_eq] at h4
   exact ⟨by unfold ClassLen; omega, h4.2⟩
  ·have h4 : i.rune.length = 1 ∧ 0 ≤ i.rune.getD 0 (-1) := by
    rcases h2 with (((((h2 | h2) | h2) | h2) | h2) | h2) | h2
    ·omega
    ·omega
    ·omega
    ·omega
    ·omega
    ·omega
    ·exact ⟨h2.1.2, h2.2⟩
   obtain ⟨x, hx⟩ := List.length_eq_one_iff.1 h4.1
   rw [hx] at h4
   exact ⟨x, hx, h4.2⟩
 constructor
 case cls => rw [hi]; exact key.1
 case one => rw [hi]; exact key.2
 case nil =>
  rw [hi]
  intro n7 n8
  rcases h2 with (((((h2 | h2) | h2) | h2) | h2) | h2) | h2
  ·exact h2.2
  ·exact h2.2
  ·exact h2.2
  ·exact h2.2
  ·exact h2.2
  ·omega
  ·omega
 all_goals rw [hi]
 all_goals clear key
 all_goals omega

section
variable {l : List Inst} {nc : Nat} {rl : List Nat} {top : Nat} (h : tableOk l nc rl top clsOk = true)
include h

theorem prog_far {pc : Nat} (h1 : pc = 0 ∨ l.length ≤ pc) : progOf l pc = deaf := by
 clear h
 unfold progOf
 split
 ·rfl
 ·rename_i h0
  rw [List.getD_eq_getElem?_getD, List.getElem?_eq_none (by omega)]
  rfl

theorem prog_any (pc : Nat) : progOf l pc = deaf ∨ Fit l nc (rankOf rl) pc := by
 by_cases h1 : pc = 0 ∨ l.length ≤ pc
 ·exact .inl (prog_far h h1)
 ·exact .inr (fit_of h (by omega) (by omega))

theorem table_ok (s : ByteArray) (hs : Plain s) (ht : ∀ pc, rankOf rl pc < top) : (envAt (progOf l) s (rankOf rl) top).Ok := by
 refine ⟨?_, ht, ?_, ?_, ?_, ?_⟩
 ·intro p hp
  show 1 ≤ (if p < s.size then 1 else 0) ∧ p + (if p < s.size then 1 else 0) ≤ s.size
  have hp' : p < s.size := hp
  rw [if_pos hp']
  omega
 ·intro p pc hp
  have hp' : ¬ p < s.size := by have : s.size ≤ p := hp; omega
  show (if (progOf l pc).op = 7 then classTakes (progOf l pc).rune (runeAt s p) else decide ((progOf l pc).rune = [runeAt s p])) = false
  rw [runeAt_out hp']
  rcases prog_any h pc with e | f
  ·rw [e]; rfl
  ·split
   ·rename_i h7; exact (f.cls h7).2
   ·by_cases h8 : (progOf l pc).op = 8
    ·obtain ⟨x, hx, hx0⟩ := f.one h8
     rw [hx]
     refine decide_eq_false ?_
     intro e
     simp at e
     omega
    ·rename_i h7
     rw [f.nil h7 h8]
     rfl
 ·intro pc
  rcases prog_any h pc with e | f
  ·show (progOf l pc).op ≠ 1 ∧ (progOf l pc).op ≤ 10
   rw [e]; decide
  ·have := f.ops
   show (progOf l pc).op ≠ 1 ∧ (progOf l pc).op ≤ 10
   omega
 ·intro pc h0
  rcases prog_any h pc with e | f
  ·have h0' : (progOf l pc).op = 0 := h0
   rw [e] at h0'
   cases h0'
  ·exact f.ralt h0
 ·intro pc h0
  rcases prog_any h pc with e | f
  ·have h0' : (progOf l pc).op = 2 ∨ (progOf l pc).op = 3 ∨ (progOf l pc).op = 6 := h0
   rw [e] at h0'
   exact absurd h0' (by decide)
  ·exact f.rfree h0

theorem table_nofail (s : ByteArray) : Env.NoFail (envAt (progOf l) s (rankOf rl) top) := by
 intro pc
 show (progOf l pc).op ≠ 5
 rcases prog_any h pc with e | f
 ·rw [e]; decide
 ·have := f.ops; omega
end

section
variable {l : List Inst} {rl : List Nat} {top : Nat} {s : ByteArray}

theorem takes_at : Takes (envAt (progOf l) s (rankOf rl) top) := by
 refine ⟨fun i r h => ?_, fun i r h => ?_⟩
 ·show (if i.op = 7 then classTakes i.rune r else decide (i.rune = [r])) = _
  rw [if_pos h]
 ·show (if i.op = 7 then classTakes i.rune r else decide (i.rune = [r])) = _
  rw [if_neg (by omega)]

theorem widths_at : Widths (envAt (progOf l) s (rankOf rl) top) := ⟨fun _ => rfl, fun _ => rfl⟩

def nats (s : ByteArray) : List Nat := s.data.toList.map UInt8.toNat

theorem nats_length (s : ByteArray) : (nats s).length = s.size := by
 unfold nats
 rw [List.length_map, Array.length_toList]
 rfl

theorem nats_at (s : ByteArray) (p : Nat) (h : p < s.size) : (nats s).getD p 0 = (s[p]'h).toNat := by
 unfold nats
 have h1 : p < s.data.toList.length := by rw [Array.length_toList]; exact h
 rw [List.getD_eq_getElem?_getD, List.getElem?_map, List.getElem?_eq_getElem h1]
 rfl

theorem nats_plain {s : ByteArray} (h : Plain s) : ∀ x, x ∈ nats s → x < 128 := by
 intro x hx
 obtain ⟨i, hi, rfl⟩ := List.mem_iff_getElem.1 hx
 have hi2 : i < s.size := by rw [← nats_length]; exact hi
 have := nats_at s i hi2
 rw [List.getD_eq_getElem?_getD, List.getElem?_eq_getElem hi] at this
 have h2 := h i hi2
 simp at this
 omega

theorem over_at {nc : Nat} (h : tableOk l nc rl top clsOk = true) (hs : Plain s) (ht : ∀ pc, rankOf rl pc < top) : Env.Over (envAt (progOf l) s (rankOf rl) top) (nats s) := by
 refine ⟨(nats_length s).symm, fun p hp => ?_, fun p pc hp => ?_⟩
 ·rw [nats_length] at hp
  show (runeAt s p, if p < s.size then 1 else 0) = _
  rw [if_pos hp, nats_at s p hp]
  unfold runeAt
  rw [dif_pos hp]
 ·rw [nats_length] at hp
  exact (table_ok h s hs ht).ends p pc hp

theorem zero_dead {nc : Nat} (h : tableOk l nc rl top clsOk = true) (hs : Plain s) (ht : ∀ pc, rankOf rl pc < top) : Env.ZeroDead (envAt (progOf l) s (rankOf rl) top) := by
 intro p c
 rw [Env.res_eq (table_ok h s hs ht)]
 have e : (envAt (progOf l) s (rankOf rl) top).prog 0 = deaf := rfl
 rw [e]
 have h2 : (envAt (progOf l) s (rankOf rl) top).takes deaf ((envAt (progOf l) s (rankOf rl) top).st p).1 = false := by
  show decide ([-2] = [runeAt s p]) = false
  refine decide_eq_false ?_
  intro e
  have := (rune_bd s hs p).1
  simp at e
  omega
 simp only [h2]
 simp [deaf]

theorem anch_at {nc o : Nat} (h : tableOk l nc rl top clsOk = true) (hs : Plain s) (ht : ∀ pc, rankOf rl pc < top) (h1 : progOf l 1 = ⟨3, o, 4, []⟩) : Env.Anch (envAt (progOf l) s (rankOf rl) top) 1 := by
 have hE := table_ok h s hs ht
 refine ⟨hE, zero_dead h hs ht, fun p c hp => ?_, fun p hp => ?_, fun p hp => ⟨?_, fun pc => hE.ends p pc hp⟩⟩
 ·rw [Env.res_eq hE]
  have e : (envAt (progOf l) s (rankOf rl) top).prog 1 = ⟨3, o, 4, []⟩ := h1
  have e2 : (envAt (progOf l) s (rankOf rl) top).ew 4 p = false := decide_eq_false (by omega)
  rw [e]
  simp [e2]
 ·have hp' : p < s.size := hp
  show 0 < (if p < s.size then 1 else 0) ∧ p + (if p < s.size then 1 else 0) ≤ s.size
  rw [if_pos hp']
  omega
 ·have hp' : ¬ p < s.size := by have : s.size ≤ p := hp; omega
  show (if p < s.size then 1 else 0) = 0
  rw [if_neg hp']

theorem table_at {nc : Nat} (h : tableOk l nc rl top clsOk = true) : Table (progOf l) l.length := by
 refine ⟨fun pc h0 h1 h7 => ((fit_of h h0 h1).cls h7).1, fun pc h0 h1 h8 => ?_⟩
 obtain ⟨x, hx, _⟩ := (fit_of h h0 h1).one h8
 exact ⟨x, hx⟩

theorem wf_at {nc : Nat} (h : tableOk l nc rl top clsOk = true) (hnc : 2 ≤ nc ∧ nc < 100) : ∀ L : Lay, L.np = l.length → L.pg = progOf l → L.nc = nc → Wf L := by
 intro L e1 e2 e3
 constructor
 ·rw [e3]; exact hnc
 all_goals
  intro pc h0 h1
  rw [e1] at h1
  have f := fit_of h h0 h1
  rw [e2]
 ·exact f.ops
 ·rw [e1]; exact f.out
 ·rw [e1]; exact f.alt
 ·rw [e3]; exact f.cap
 ·exact f.ew
 ·exact f.cls
 ·intro h8
  obtain ⟨x, hx, hx0⟩ := f.one h8
  exact ⟨x, hx, by omega⟩
end

def refRuns : List Run := [
 ⟨1, 5, 0, 0, 0, 0, []⟩,
 ⟨1, 3, 2, 0, 4, 0, []⟩,
 ⟨1, 2, 27, 0, 2, 0, []⟩,
 ⟨1, 7, 8, 0, 0, 0, [48, 57, 65, 90, 97, 122]⟩,
 ⟨1, 6, 16, 0, 0, 0, []⟩,
 ⟨1, 7, 6, 0, 0, 0, [45, 45, 48, 57, 65, 90, 97, 122]⟩,
 ⟨1, 0, 5, 0, 7, 0, []⟩,
 ⟨1, 7, 16, 0, 0, 0, [48, 57, 65, 90, 97, 122]⟩,
 ⟨1, 0, 4, 0, 6, 0, []⟩,
 ⟨1, 8, 10, 0, 0, 0, [46]⟩,
 ⟨1, 7, 15, 0, 0, 0, [48, 57, 65, 90, 97, 122]⟩,
 ⟨1, 6, 16, 0, 0, 0, []⟩,
 ⟨1, 7, 13, 0, 0, 0, [45, 45, 48, 57, 65, 90, 97, 122]⟩,
 ⟨1, 0, 12, 0, 14, 0, []⟩,
 ⟨1, 7, 16, 0, 0, 0, [48, 57, 65, 90, 97, 122]⟩,
 ⟨1, 0, 11, 0, 13, 0, []⟩,
 ⟨1, 0, 9, 0, 25, 0, []⟩,
 ⟨1, 8, 18, 0, 0, 0, [91]⟩,
 ⟨1, 7, 19, 0, 0, 0, [48, 58, 65, 70, 97, 102]⟩,
 ⟨1, 0, 18, 0, 20, 0, []⟩,
 ⟨1, 8, 25, 0, 0, 0, [93]⟩,
 ⟨1, 0, 3, 0, 17, 0, []⟩,
 ⟨1, 8, 23, 0, 0, 0, [58]⟩,
 ⟨1, 7, 24, 0, 0, 0, [48, 57]⟩,
 ⟨1, 0, 23, 0, 26, 0, []⟩,
 ⟨1, 0, 22, 0, 26, 0, []⟩,
 ⟨1, 8, 28, 0, 0, 0, [47]⟩,
 ⟨1, 0, 21, 0, 28, 0, []⟩,
 ⟨1, 7, 29, 0, 0, 0, [48, 57, 97, 122]⟩,
 ⟨1, 0, 28, 0, 39, 0, []⟩,
 ⟨1, 7, 37, 0, 0, 0, [46, 46, 95, 95]⟩,
 ⟨1, 8, 32, 0, 0, 0, [95]⟩,
 ⟨1, 8, 37, 0, 0, 0, [95]⟩,
 ⟨1, 0, 30, 0, 31, 0, []⟩,
 ⟨1, 8, 35, 0, 0, 0, [45]⟩,
 ⟨1, 0, 34, 0, 37, 0, []⟩,
 ⟨1, 0, 33, 0, 34, 0, []⟩,
 ⟨1, 7, 38, 0, 0, 0, [48, 57, 97, 122]⟩,
 ⟨1, 0, 37, 0, 39, 0, []⟩,
 ⟨1, 0, 36, 0, 53, 0, []⟩,
 ⟨1, 8, 41, 0, 0, 0, [47]⟩,
 ⟨1, 7, 42, 0, 0, 0, [48, 57, 97, 122]⟩,
 ⟨1, 0, 41, 0, 52, 0, []⟩,
 ⟨1, 7, 50, 0, 0, 0, [46, 46, 95, 95]⟩,
 ⟨1, 8, 45, 0, 0, 0, [95]⟩,
 ⟨1, 8, 50, 0, 0, 0, [95]⟩,
 ⟨1, 0, 43, 0, 44, 0, []⟩,
 ⟨1, 8, 48, 0, 0, 0, [45]⟩,
 ⟨1, 0, 47, 0, 50, 0, []⟩,
 ⟨1, 0, 46, 0, 47, 0, []⟩,
 ⟨1, 7, 51, 0, 0, 0, [48, 57, 97, 122]⟩,
 ⟨1, 0, 50, 0, 52, 0, []⟩,
 ⟨1, 0, 49, 0, 53, 0, []⟩,
 ⟨1, 0, 40, 0, 54, 0, []⟩,
 ⟨1, 2, 313, 0, 3, 0, []⟩,
 ⟨1, 8, 56, 0, 0, 0, [58]⟩,
 ⟨1, 2, 57, 0, 4, 0, []⟩,
 ⟨1, 7, 311, 0, 0, 0, [48, 57, 65, 90, 95, 95, 97, 122]⟩,
 ⟨126, 7, 310, -1, 0, 0, [45, 46, 48, 57, 65, 90, 95, 95, 97, 122]⟩,
 ⟨1, 7, 312, 0, 0, 0, [45, 46, 48, 57, 65, 90, 95, 95, 97, 122]⟩,
 ⟨127, 0, 184, -1, 312, 0, []⟩,
 ⟨1, 2, 359, 0, 5, 0, []⟩,
 ⟨1, 0, 55, 0, 359, 0, []⟩,
 ⟨1, 8, 315, 0, 0, 0, [64]⟩,
 ⟨1, 2, 316, 0, 6, 0, []⟩,
 ⟨1, 7, 318, 0, 0, 0, [65, 90, 97, 122]⟩,
 ⟨1, 7, 318, 0, 0, 0, [48, 57, 65, 90, 97, 122]⟩,
 ⟨1, 0, 317, 0, 323, 0, []⟩,
 ⟨1, 7, 320, 0, 0, 0, [43, 43, 45, 46, 95, 95]⟩,
 ⟨1, 7, 322, 0, 0, 0, [65, 90, 97, 122]⟩,
 ⟨1, 7, 322, 0, 0, 0, [48, 57, 65, 90, 97, 122]⟩,
 ⟨1, 0, 321, 0, 323, 0, []⟩,
 ⟨1, 0, 319, 0, 324, 0, []⟩,
 ⟨1, 8, 325, 0, 0, 0, [58]⟩,
 ⟨32, 7, 326, 1, 0, 0, [48, 57, 65, 70, 97, 102]⟩,
 ⟨1, 0, 356, 0, 358, 0, []⟩,
 ⟨1, 2, 360, 0, 7, 0, []⟩,
 ⟨1, 0, 314, 0, 360, 0, []⟩,
 ⟨1, 3, 361, 0, 8, 0, []⟩,
 ⟨1, 4, 0, 0, 0, 0, []⟩]
def refList : List Inst := expand refRuns
def refRanks : List Nat := [0, 4, 3, 0, 3, 0, 1, 0, 4, 0, 0, 3, 0, 1, 0, 4, 2, 0, 0, 1, 0, 1, 0, 0, 1, 1, 0, 2, 0, 7, 0, 0, 0, 1, 0, 1, 2, 0, 7, 6, 0, 0, 7, 0, 0, 0, 1, 0, 1, 2, 0, 7, 6, 5, 4, 0, 1, 0, 0, 0, 0, 0, 0, 0, 0, 0, 0, 0, 0, 0, 0, 0, 0, 0, 0, 0, 0, 0, 0, 0, 0, 0, 0, 0, 0, 0, 0, 0, 0, 0, 0, 0, 0, 0, 0, 0, 0, 0, 0, 0, 0, 0, 0, 0, 0, 0, 0, 0, 0, 0, 0, 0, 0, 0, 0, 0, 0, 0, 0, 0, 0, 0, 0, 0, 0, 0, 0, 0, 0, 0, 0, 0, 0, 0, 0, 0, 0, 0, 0, 0, 0, 0, 0, 0, 0, 0, 0, 0, 0, 0, 0, 0, 0, 0, 0, 0, 0, 0, 0, 0, 0, 0, 0, 0, 0, 0, 0, 0, 0, 0, 0, 0, 0, 0, 0, 0, 0, 0, 0, 0, 0, 0, 0, 0, 0, 4, 4, 4, 4, 4, 4, 4, 4, 4, 4, 4, 4, 4, 4, 4, 4, 4, 4, 4, 4, 4, 4, 4, 4, 4, 4, 4, 4, 4, 4, 4, 4, 4, 4, 4, 4, 4, 4, 4, 4, 4, 4, 4, 4, 4, 4, 4, 4, 4, 4, 4, 4, 4, 4, 4, 4, 4, 4, 4, 4, 4, 4, 4, 4, 4, 4, 4, 4, 4, 4, 4, 4, 4, 4, 4, 4, 4, 4, 4, 4, 4, 4, 4, 4, 4, 4, 4, 4, 4, 4, 4, 4, 4, 4, 4, 4, 4, 4, 4, 4, 4, 4, 4, 4, 4, 4, 4, 4, 4, 4, 4, 4, 4, 4, 4, 4, 4, 4, 4, 4, 4, 4, 4, 4, 4, 4, 4, 3, 3, 0, 1, 0, 0, 2, 0, 0, 0, 2, 1, 0, 0, 0, 0, 0, 0, 0, 0, 0, 0, 0, 0, 0, 0, 0, 0, 0, 0, 0, 0, 0, 0, 0, 0, 0, 0, 0, 0, 0, 0, 0, 0, 0, 3, 2, 2, 1, 0]
theorem ref_len : refList.length = 362 := by decide +kernel
theorem ref_fit : tableOk refList 8 refRanks 8 clsOk = true := by decide +kernel
theorem ref_top : ∀ pc, rankOf refRanks pc < 8 := by
 intro pc
 unfold rankOf
 by_cases h : pc < 362
 ·exact (by decide +kernel : ∀ pc, pc < 362 → refRanks.getD pc 0 < 8) pc h
 ·rw [List.getD_eq_getElem?_getD, List.getElem?_eq_none (by have : refRanks.length = 362 := (by decide +kernel); omega)]
  decide

def nameRuns : List Run := [
 ⟨1, 5, 0, 0, 0, 0, []⟩,
 ⟨1, 3, 28, 0, 4, 0, []⟩,
 ⟨1, 2, 21, 0, 2, 0, []⟩,
 ⟨1, 7, 8, 0, 0, 0, [48, 57, 65, 90, 97, 122]⟩,
 ⟨1, 6, 16, 0, 0, 0, []⟩,
 ⟨1, 7, 6, 0, 0, 0, [45, 45, 48, 57, 65, 90, 97, 122]⟩,
 ⟨1, 0, 5, 0, 7, 0, []⟩,
 ⟨1, 7, 16, 0, 0, 0, [48, 57, 65, 90, 97, 122]⟩,
 ⟨1, 0, 4, 0, 6, 0, []⟩,
 ⟨1, 8, 10, 0, 0, 0, [46]⟩,
 ⟨1, 7, 15, 0, 0, 0, [48, 57, 65, 90, 97, 122]⟩,
 ⟨1, 6, 16, 0, 0, 0, []⟩,
 ⟨1, 7, 13, 0, 0, 0, [45, 45, 48, 57, 65, 90, 97, 122]⟩,
 ⟨1, 0, 12, 0, 14, 0, []⟩,
 ⟨1, 7, 16, 0, 0, 0, [48, 57, 65, 90, 97, 122]⟩,
 ⟨1, 0, 11, 0, 13, 0, []⟩,
 ⟨1, 0, 9, 0, 25, 0, []⟩,
 ⟨1, 8, 18, 0, 0, 0, [91]⟩,
 ⟨1, 7, 19, 0, 0, 0, [48, 58, 65, 70, 97, 102]⟩,
 ⟨1, 0, 18, 0, 20, 0, []⟩,
 ⟨1, 8, 25, 0, 0, 0, [93]⟩,
 ⟨1, 0, 3, 0, 17, 0, []⟩,
 ⟨1, 8, 23, 0, 0, 0, [58]⟩,
 ⟨1, 7, 24, 0, 0, 0, [48, 57]⟩,
 ⟨1, 0, 23, 0, 26, 0, []⟩,
 ⟨1, 0, 22, 0, 26, 0, []⟩,
 ⟨1, 2, 27, 0, 3, 0, []⟩,
 ⟨1, 8, 29, 0, 0, 0, [47]⟩,
 ⟨1, 0, 2, 0, 29, 0, []⟩,
 ⟨1, 2, 30, 0, 4, 0, []⟩,
 ⟨1, 7, 31, 0, 0, 0, [48, 57, 97, 122]⟩,
 ⟨1, 0, 30, 0, 41, 0, []⟩,
 ⟨1, 7, 39, 0, 0, 0, [46, 46, 95, 95]⟩,
 ⟨1, 8, 34, 0, 0, 0, [95]⟩,
 ⟨1, 8, 39, 0, 0, 0, [95]⟩,
 ⟨1, 0, 32, 0, 33, 0, []⟩,
 ⟨1, 8, 37, 0, 0, 0, [45]⟩,
 ⟨1, 0, 36, 0, 39, 0, []⟩,
 ⟨1, 0, 35, 0, 36, 0, []⟩,
 ⟨1, 7, 40, 0, 0, 0, [48, 57, 97, 122]⟩,
 ⟨1, 0, 39, 0, 41, 0, []⟩,
 ⟨1, 0, 38, 0, 55, 0, []⟩,
 ⟨1, 8, 43, 0, 0, 0, [47]⟩,
 ⟨1, 7, 44, 0, 0, 0, [48, 57, 97, 122]⟩,
 ⟨1, 0, 43, 0, 54, 0, []⟩,
 ⟨1, 7, 52, 0, 0, 0, [46, 46, 95, 95]⟩,
 ⟨1, 8, 47, 0, 0, 0, [95]⟩,
 ⟨1, 8, 52, 0, 0, 0, [95]⟩,
 ⟨1, 0, 45, 0, 46, 0, []⟩,
 ⟨1, 8, 50, 0, 0, 0, [45]⟩,
 ⟨1, 0, 49, 0, 52, 0, []⟩,
 ⟨1, 0, 48, 0, 49, 0, []⟩,
 ⟨1, 7, 53, 0, 0, 0, [48, 57, 97, 122]⟩,
 ⟨1, 0, 52, 0, 54, 0, []⟩,
 ⟨1, 0, 51, 0, 55, 0, []⟩,
 ⟨1, 0, 42, 0, 56, 0, []⟩,
 ⟨1, 2, 57, 0, 5, 0, []⟩,
 ⟨1, 3, 58, 0, 8, 0, []⟩,
 ⟨1, 4, 0, 0, 0, 0, []⟩]
def nameList : List Inst := expand nameRuns
def nameRanks : List Nat := [0, 4, 2, 0, 4, 0, 1, 0, 5, 0, 0, 4, 0, 1, 0, 5, 3, 0, 0, 1, 0, 1, 0, 0, 2, 2, 1, 0, 3, 1, 0, 5, 0, 0, 0, 1, 0, 1, 2, 0, 5, 4, 0, 0, 5, 0, 0, 0, 1, 0, 1, 2, 0, 5, 4, 3, 2, 1, 0]
theorem name_len : nameList.length = 59 := by decide +kernel
theorem name_fit : tableOk nameList 6 nameRanks 6 clsOk = true := by decide +kernel
theorem name_top : ∀ pc, rankOf nameRanks pc < 6 := by
 intro pc
 unfold rankOf
 by_cases h : pc < 59
 ·exact (by decide +kernel : ∀ pc, pc < 59 → nameRanks.getD pc 0 < 6) pc h
 ·rw [List.getD_eq_getElem?_getD, List.getElem?_eq_none (by have : nameRanks.length = 59 := (by decide +kernel); omega)]
  decide


end Go.Proofs.YtkbmigfkclnlaaaGreatDoor
namespace Go.Rx

def instEq (a b : Inst) : Bool := a.op == b.op && a.out == b.out && a.arg == b.arg && a.rune == b.rune
theorem eq_of_instEq {a b : Inst} (h : instEq a b = true) : a = b := by
 obtain ⟨a1, a2, a3, a4⟩ := a
 obtain ⟨b1, b2, b3, b4⟩ := b
 simp only [instEq, Bool.and_eq_true, beq_iff_eq] at h
 obtain ⟨⟨⟨rfl, rfl⟩, rfl⟩, rfl⟩ := h
 rfl

end Go.Rx
namespace Go.Proofs.YtkbmigfkclnlaaaGreatDoor
open Go.RowKit Go.Rx

section
variable (s : ByteArray) (rank : Nat → Nat) (top : Nat)

theorem ref_at : RefAt (envAt (progOf refList) s rank top) := by
 constructor
 case dom => constructor <;> (refine eq_of_instEq ?_; show instEq (progOf refList _) _ = true; decide +kernel)
 case path => constructor <;> (refine eq_of_instEq ?_; show instEq (progOf refList _) _ = true; decide +kernel)
 case tag =>
  constructor
  case more =>
   intro j hj
   exact eq_of_instEq (a := progOf refList _) ((by decide +kernel : ∀ j, j < 126 → instEq (progOf refList (58 + j)) ⟨7, 310 - j, 0, [45, 46, 48, 57, 65, 90, 95, 95, 97, 122]⟩ = true) j hj)
  case alts =>
   intro j hj
   exact eq_of_instEq (a := progOf refList _) ((by decide +kernel : ∀ j, j < 127 → instEq (progOf refList (311 - j)) ⟨0, 58 + j, 312, []⟩ = true) j hj)
  all_goals (refine eq_of_instEq ?_; show instEq (progOf refList _) _ = true; decide +kernel)
 case dig =>
  constructor
  case hexs =>
   intro j hj
   exact eq_of_instEq (a := progOf refList _) ((by decide +kernel : ∀ j, j < 32 → instEq (progOf refList (325 + j)) ⟨7, 326 + j, 0, [48, 57, 65, 70, 97, 102]⟩ = true) j hj)
  all_goals (refine eq_of_instEq ?_; show instEq (progOf refList _) _ = true; decide +kernel)
 case f361 => exact (by decide +kernel : (progOf refList 361).op = 4)
 all_goals (refine eq_of_instEq ?_; show instEq (progOf refList _) _ = true; decide +kernel)

theorem name_at : NameAt (envAt (progOf nameList) s rank top) := by
 constructor
 case dom => constructor <;> (refine eq_of_instEq ?_; show instEq (progOf nameList _) _ = true; decide +kernel)
 case path => constructor <;> (refine eq_of_instEq ?_; show instEq (progOf nameList _) _ = true; decide +kernel)
 case f58 => exact (by decide +kernel : (progOf nameList 58).op = 4)
 all_goals (refine eq_of_instEq ?_; show instEq (progOf nameList _) _ = true; decide +kernel)
end

end Go.Proofs.YtkbmigfkclnlaaaGreatDoor
namespace Go.Proofs.YtkbmigfkclnlaaaGreatDoor
open Go.RowKit Go.Rx
attribute [local go_sem] Ext.cell Ext.frozen Ext.lt Ext.lt_add Ext.cell2 Ext.frozen2

def runCells (r : Run) (v : Value) : List Value := [.int .i64 r.n, .int .u8 r.op, .int .i64 r.out, .int .i64 r.dout, .int .i64 r.arg, .int .i64 r.darg, v, .slice none 0 0, .int .i64 0]
def instCells (i : Inst) (v : Value) : List Value := [.int .u8 i.op, .int .u32 i.out, .int .u32 i.arg, v]

structure RunOk (r : Run) : Prop where
 n : r.n ≤ 1000
 out : ∀ k, k < r.n → (r.out : Int) + k * r.dout = ((r.inst k).out : Nat) ∧ (r.inst k).out < 100000
 arg : ∀ k, k < r.n → (r.arg : Int) + k * r.darg = ((r.inst k).arg : Nat) ∧ (r.inst k).arg < 100000
 op : r.op < 100
 lim : r.out < 100000 ∧ r.arg < 100000

theorem inst_info : (Tryz.prog.info? 122).map (fun i => (i.zero, i.size, i.bytes)) = some (some (.agg #[.int .u8 0, .int .u32 0, .int .u32 0, .slice none 0 0]), 4, 40) := by kernel_rfl

theorem inst_any (r : Run) (h : RunOk r) (ao : Option Addr) (m c : Nat) (k : Nat) (hk : k < r.n) (w : World) :
  Calls Tryz.prog 82 #[.agg #[.int .i64 r.n, .int .u8 r.op, .int .i64 r.out, .int .i64 r.dout, .int .i64 r.arg, .int .i64 r.darg, .slice ao m c, .slice none 0 0, .int .i64 0], .int .i64 k] w fun e w' => e = .returned (.agg #[.int .u8 (r.inst k).op, .int .u32 (r.inst k).out, .int .u32 (r.inst k).arg, .slice ao m c]) ∧ ∃ x : Ext w, w' = x.now := by
 obtain ⟨o1, o2⟩ := h.out k hk
 obtain ⟨a1, a2⟩ := h.arg k hk
 have hn := h.n
 obtain ⟨o, ho⟩ : ∃ o, (r.inst k).out = o := ⟨_, rfl⟩
 obtain ⟨a, ha⟩ : ∃ a, (r.inst k).arg = a := ⟨_, rfl⟩
 rw [ho] at o1 o2 ⊢
 rw [ha] at a1 a2 ⊢
 have e0 : (r.inst k).op = r.op := rfl
 rw [e0]
 obtain ⟨n, op, out, dout, arg, darg, rune⟩ := r
 dsimp only at *
 have h3 := h.op
 obtain ⟨l1, l2⟩ := h.lim
 dsimp only at h3 l1 l2
 clear h ho ha e0
 go_enter Tryz.func82, Tryz.ntmps82
 go_wp2_with fail
 exact bodyPost_ret (v := .agg #[.int .u8 op, .int .u32 o, .int .u32 a, .slice ao m c]) (by simp [results, Tryz.results82, go_sem]) rfl ⟨rfl, Ext.alloc2 _ _ _⟩

abbrev Sl := Option Addr × Nat × Nat
def slV (s : Sl) : Value := .slice s.1 s.2.1 s.2.2

def rowCells (x : Run × Sl) (k : Nat) : List Value := (List.range k).flatMap fun j => instCells (x.1.inst j) (slV x.2)
def allCells (l : List (Run × Sl)) : List Value := l.flatMap fun x => rowCells x x.1.n
def total (l : List (Run × Sl)) : Nat := (l.map fun x => x.1.n).sum

theorem rowCells_succ (x : Run × Sl) (k : Nat) : rowCells x (k + 1) = rowCells x k ++ instCells (x.1.inst k) (slV x.2) := by
 unfold rowCells
 rw [List.range_succ, List.flatMap_append]
 simp
theorem allCells_take {l : List (Run × Sl)} {i : Nat} {x : Run × Sl} (h : l[i]? = some x) : allCells (l.take (i + 1)) = allCells (l.take i) ++ rowCells x x.1.n := by
 rw [List.take_add_one, h]
 simp [allCells]
theorem total_take {l : List (Run × Sl)} {i : Nat} {x : Run × Sl} (h : l[i]? = some x) : total (l.take (i + 1)) = total (l.take i) + x.1.n := by
 rw [List.take_add_one, h]
 simp [total]
theorem total_le (l : List (Run × Sl)) (h : ∀ x, x ∈ l → RunOk x.1) : total l ≤ l.length * 1000 := by
 induction l with
 | nil => simp [total]
 | cons a l ih =>
  have h1 := (h a (List.mem_cons_self ..)).n
  have h2 := ih (fun x hx => h x (List.mem_cons_of_mem _ hx))
  have e : total (a :: l) = a.1.n + total l := by simp [total]
  rw [e, List.length_cons]
  omega

def RunsAt (w : World) (B : Nat) (l : List (Run × Sl)) : Prop := ∀ (i : Nat) x, l[i]? = some x → ∀ (j : Nat) u, (runCells x.1 (slV x.2))[j]? = some u → w.cell? ⟨B, i * 9 + j, none⟩ = some u

theorem own_chg_any {w w' : World} {base n : Nat} {e : TypeId} {sz : Nat} {v : Value} {xs : List Value} {X : List Nat} (h : w.ownsRow base e sz v n xs) (x : Chg X w w') (hX : ∀ b, v.ownBlock = some b → b ∉ X) : w'.ownsRow base e sz v n xs := by
 obtain ⟨h1, h2⟩ := h
 refine ⟨h1, ?_⟩
 rcases h2 with h2 | ⟨g, cap, cur, rfl, hb, hh, hr⟩
 ·exact .inl h2
 ·refine .inr ⟨g, cap, cur, rfl, hb, ?_, hr⟩
  rw [x.block g (Array.getElem?_eq_some_iff.1 hh).1 (hX g rfl)]
  exact hh

theorem inst_append (w : World) {ops : Array Oper} {rest : List Oper} {o : Oper} {a : Act} {Q : Exit → Act → World → Prop} (hgd : o.guard = none) (s x : Operand)
  (ho : o.op = .call { callee := .builtin .append, args := #[s, x], argTypes := #[74, 74] }) (base n : Nat) (v : Value) (xs : List Value) (hs : a.eval s = v)
  (hown : w.ownsRow base 122 4 v n xs) (ad : Addr) (c : Nat) (news : List Value) (hx : a.eval x = .slice (some ad) 1 c) (hl : news.length = 4)
  (hnews : ∀ j u, news[j]? = some u → w.cell? (ad.add j) = some u) (h1 : ∀ u ∈ news, u.oneCell' = true) (hn : n < 1000000000) (hbase : base ≤ w.heap.size)
  (h : ∀ g cap w', w'.ownsRow base 122 4 (.slice (some ⟨g, 0, none⟩) (n + 1) cap) (n + 1) (xs ++ news) → w.grownBy w' v.ownBlock → (v.ownBlock = some g ∨ g = w.heap.size) → wpList Tryz.prog ops Q rest (a.put o.dst (.slice (some ⟨g, 0, none⟩) (n + 1) cap)) w') :
  wpList Tryz.prog ops Q (o :: rest) a w := by
 obtain ⟨i, hi, hz0, hz1, hz2⟩ := info_parts inst_info
 exact wpList_append_lies w hgd s x 74 ho base 122 i _ 4 40 (by kernel_rfl) hi hz0 hz1 hz2 rfl (by omega) v n xs hs hown ad 1 c news hx (by simpa using hl) hnews h1 (by omega) (by simp [maxLen]; omega) (by omega) hbase _ rfl (fun g cap w' a1 a2 a3 _ => h g cap w' a1 a2 a3)

def Wrote (w : World) (l : List (Run × Sl)) (i : Nat) (v : Value) (wr : World) : Prop :=
 wr.ownsRow w.heap.size 122 4 v (total (l.take i)) (allCells (l.take i)) ∧ ∃ x : Ext w, wr = x.now
def WroteIn (w : World) (l : List (Run × Sl)) (i : Nat) (x : Run × Sl) (k : Nat) (v : Value) (wr : World) : Prop :=
 wr.ownsRow w.heap.size 122 4 v (total (l.take i) + k) (allCells (l.take i) ++ rowCells x k) ∧ ∃ x : Ext w, wr = x.now

theorem Ext.grown {w wr w' : World} {v : Value} {n : Nat} {xs : List Value} {t : TypeId} {sz : Nat} (x : Ext w) (hx : wr = x.now) (ho : wr.ownsRow w.heap.size t sz v n xs) (hg : wr.grownBy w' v.ownBlock) : ∃ y : Ext w, w' = y.now := by
 subst hx
 refine Ext.of ⟨hg.os.trans x.below.os, hg.tape.trans x.below.tape, hg.output.trans x.below.output, Nat.le_trans x.below.size hg.size, fun k hk => ?_⟩
 rw [hg.block k (Nat.lt_of_lt_of_le hk x.below.size) (fun e => by have := (ho.lt k e.symm).1; omega)]
 exact x.below.block k hk

set_option maxRecDepth 1000000 in
set_option maxHeartbeats 4000000 in
theorem zz_insts (w : World) (B : Nat) (l : List (Run × Sl)) (c : Nat) (hB : RunsAt w B l) (hBl : B < w.heap.size) (hok : ∀ x, x ∈ l → RunOk x.1) (hl : l.length ≤ 1000) :
  Calls Tryz.prog 72 #[.slice (some ⟨B, 0, none⟩) l.length c] w fun e w' => ∃ v, e = .returned v ∧ Wrote w l l.length v w' := by
 have HB := Lib.hid hB
 have HK := Lib.hid hok
 have HT := Lib.hid (total_le (l.take l.length) (fun x hx => hok x (List.mem_of_mem_take hx)))
 clear hB hok
 go_enter Tryz.func72, Tryz.ntmps72
 go_wp2_with fail
 go_loopw [3, 9] (fun v t wr => ∃ i : Nat, i ≤ l.length ∧ t = .int .i64 i ∧ Wrote w l i v wr) (fun _ t _ => l.length - (intOf t).toNat)
 case atStart => exact ⟨0, Nat.zero_le _, rfl, by simpa [total, allCells] using World.ownsRow_nil w w.heap.size 122 4, Ext.refl w, rfl⟩
 case round =>
  obtain ⟨i, hi, rfl, hown, x, rfl⟩ := hrel
  by_cases hlt : i < l.length
  ·have hlt' : (i : Int) < (l.length : Int) := by omega
   obtain ⟨y, hy⟩ : ∃ y, l[i]? = some y := ⟨_, List.getElem?_eq_getElem hlt⟩
   have hyo := HK.out y (List.mem_of_getElem? hy)
   have hyn := hyo.n
   have hRA := HB.out i y hy
   have cc : ∀ j u, (runCells y.1 (slV y.2))[j]? = some u → x.now.cell? ⟨B, i * 9 + j, none⟩ = some u := fun j u h => by rw [x.cell B (i * 9 + j) hBl]; exact hRA j u h
   have hT0 : total (l.take i) ≤ 1000000 := by
    have := total_le (l.take i) (fun x hx => HK.out x (List.mem_of_mem_take hx))
    rw [List.length_take] at this
    have : min i l.length ≤ 1000 := by omega
    omega
   obtain ⟨r, ao, m, cv⟩ := y
   obtain ⟨n, op, out, dout, arg, darg, rune⟩ := r
   have c0 := cc 0 _ rfl
   have c1 := cc 1 _ rfl
   have c2 := cc 2 _ rfl
   have c3 := cc 3 _ rfl
   have c4 := cc 4 _ rfl
   have c5 := cc 5 _ rfl
   have c6 := cc 6 _ rfl
   have c7 := cc 7 _ rfl
   have c8 := cc 8 _ rfl
   simp only [Nat.add_zero, slV] at c0 c1 c2 c3 c4 c5 c6 c7 c8
   dsimp only at hyn
   have HY := Lib.hid hyo
   have HYI := Lib.hid hy
   have HOWN := Lib.hid hown
   have hBx := x.lt B hBl
   clear hyo hy hRA cc hown
   go_wp2_with fail
   obtain ⟨w1, hw1⟩ : ∃ w1, w1 = x.now.alloc (Obj.cells #[.int .i64 n, .int .u8 op, .int .i64 out, .int .i64 dout, .int .i64 arg, .int .i64 darg, .slice ao m cv, .slice none 0 0, .int .i64 0] 132) := ⟨_, rfl⟩
   obtain ⟨BV, hBV⟩ : ∃ BV, x.now.heap.size = BV := ⟨_, rfl⟩
   rw [← hw1, hBV]
   have bBV : Blk w1 BV [.int .i64 n, .int .u8 op, .int .i64 out, .int .i64 dout, .int .i64 arg, .int .i64 darg, .slice ao m cv, .slice none 0 0, .int .i64 0] 132 := by rw [hw1, ← hBV]; exact Blk.new _ _ _
   have own1 : w1.ownsRow w.heap.size 122 4 u3 (total (l.take i)) (allCells (l.take i)) := by rw [hw1]; exact HOWN.out.alloc _
   have hne : u3.ownBlock ≠ some BV := fun e => by have := (HOWN.out.lt BV e).2; omega
   have hx1 : ∃ y : Ext w, w1 = y.now := by rw [hw1]; exact Ext.both x (Ext.one x.now _)
   have W1 := Lib.hid bBV
   have W2 := Lib.hid own1
   have W3 := Lib.hid hx1
   clear hw1 bBV own1 hx1 c0 c1 c2 c3 c4 c5 c6 c7 c8
   go_loopw [3, 6] (fun v t wr => ∃ k : Nat, k ≤ n ∧ t = .int .i64 k ∧ WroteIn w l i (⟨n, op, out, dout, arg, darg, rune⟩, ao, m, cv) k v wr ∧ Blk wr BV [.int .i64 n, .int .u8 op, .int .i64 out, .int .i64 dout, .int .i64 arg, .int .i64 darg, .slice ao m cv, .slice none 0 0, .int .i64 0] 132 ∧ v.ownBlock ≠ some BV) (fun _ t _ => n - (intOf t).toNat)
   case atStart => exact ⟨0, Nat.zero_le _, rfl, ⟨by simpa [rowCells] using W2.out, W3.out⟩, W1.out, hne⟩
   case round =>
    obtain ⟨k, hk, rfl, ⟨hwo, y, rfl⟩, hbv, hnb⟩ := hrel
    have d0 : y.now.cell? ⟨BV, 0, none⟩ = some (.int .i64 n) := (hbv.cell 0).trans rfl
    have d1 : y.now.cell? ⟨BV, 1, none⟩ = some (.int .u8 op) := (hbv.cell 1).trans rfl
    have d2 : y.now.cell? ⟨BV, 2, none⟩ = some (.int .i64 out) := (hbv.cell 2).trans rfl
    have d3 : y.now.cell? ⟨BV, 3, none⟩ = some (.int .i64 dout) := (hbv.cell 3).trans rfl
    have d4 : y.now.cell? ⟨BV, 4, none⟩ = some (.int .i64 arg) := (hbv.cell 4).trans rfl
    have d5 : y.now.cell? ⟨BV, 5, none⟩ = some (.int .i64 darg) := (hbv.cell 5).trans rfl
    have d6 : y.now.cell? ⟨BV, 6, none⟩ = some (.slice ao m cv) := (hbv.cell 6).trans rfl
    have d7 : y.now.cell? ⟨BV, 7, none⟩ = some (.slice none 0 0) := (hbv.cell 7).trans rfl
    have d8 : y.now.cell? ⟨BV, 8, none⟩ = some (.int .i64 0) := (hbv.cell 8).trans rfl
    have hBVl := hbv.lt
    have V1 := Lib.hid hwo
    have V2 := Lib.hid hbv
    have V3 := Lib.hid hnb
    clear hwo hbv hnb
    by_cases hkn : k < n
    ·have hkn' : (k : Int) < (n : Int) := by omega
     have hinst := inst_any ⟨n, op, out, dout, arg, darg, rune⟩ HY.out ao m cv k hkn y.now
     dsimp only at hinst
     have HI := Lib.hid hinst
     clear hinst
     go_wp2_with (first | (go_at_call 82; (with_reducible refine HI.out.mono ?_); rintro e w2 ⟨rfl, z, rfl⟩) | (at_builtin; refine inst_append _ rfl _ _ rfl w.heap.size (total (l.take i) + k) u3 (allCells (l.take i) ++ rowCells (⟨n, op, out, dout, arg, darg, rune⟩, ao, m, cv) k) rfl ((own_chg_any V1.out (Chg.of_below z.below) (fun b _ => by simp)).alloc _) ⟨z.now.heap.size, 0, none⟩ 1 (instCells (Run.inst ⟨n, op, out, dout, arg, darg, rune⟩ k) (.slice ao m cv)) rfl rfl (by intro j u hu; match j, hu with | 0, hu => simpa [instCells, Addr.add] using hu | 1, hu => simpa [instCells, Addr.add] using hu | 2, hu => simpa [instCells, Addr.add] using hu | 3, hu => simpa [instCells, Addr.add] using hu | j + 4, hu => simp [instCells] at hu) (by intro u hu; simp [instCells] at hu; rcases hu with rfl | rfl | rfl | rfl <;> rfl) (by omega) (by simp; have := z.le; have := y.le; omega) ?_))
     intro g cap w3 hown3 hgr3 hat3
     have H1 := Lib.hid hown3
     have H2 := Lib.hid hgr3
     have H3 := Lib.hid hat3
     clear hown3 hgr3 hat3
     go_wp2_with fail
     have hz := z.le
     have ho0 : (z.now.alloc (Obj.cells (instCells (Run.inst ⟨n, op, out, dout, arg, darg, rune⟩ k) (.slice ao m cv)).toArray 122)).ownsRow w.heap.size 122 4 u3 (total (l.take i) + k) (allCells (l.take i) ++ rowCells (⟨n, op, out, dout, arg, darg, rune⟩, ao, m, cv) k) := (own_chg_any V1.out (Chg.of_below z.below) (fun b _ => by simp)).alloc _
     refine ⟨⟨k + 1, by omega, by simp, ⟨?_, ?_⟩, ?_, ?_⟩, by simp [intOf]; omega⟩
     ·rw [rowCells_succ]
      exact H1.out
     ·obtain ⟨yz, hyz⟩ := Ext.both y (z.trans (Ext.one z.now (Obj.cells (instCells (Run.inst ⟨n, op, out, dout, arg, darg, rune⟩ k) (.slice ao m cv)).toArray 122)))
      exact Ext.grown yz hyz ho0 H2.out
     ·refine Eq.trans ?_ ((V2.out.chg (Chg.of_below z.below) (by simp)).alloc (Obj.cells (instCells (Run.inst ⟨n, op, out, dout, arg, darg, rune⟩ k) (.slice ao m cv)).toArray 122))
      refine H2.out.block BV (by simp; omega) ?_
      exact fun e => V3.out e.symm
     ·intro e
      simp [Value.ownBlock] at e
      rcases H3.out with h | h
      ·exact V3.out (by rw [h, e])
      ·omega
    ·have hke : k = n := by omega
     subst hke
     have hkn' : ¬ (k : Int) < (k : Int) := by omega
     go_wp2_with fail
     refine ⟨⟨i + 1, by omega, by simp, ?_, y, rfl⟩, by simp [intOf]; omega⟩
     rw [allCells_take HYI.out, total_take HYI.out]
     exact V1.out
  ·have hil : i = l.length := by omega
   subst hil
   have hlt' : ¬ (l.length : Int) < (l.length : Int) := by omega
   have HOWN := Lib.hid hown
   clear hown
   go_wp2_with fail
   go_ret
   exact ⟨_, rfl, HOWN.out, x, rfl⟩

end Go.Proofs.YtkbmigfkclnlaaaGreatDoor
namespace Go.Proofs.YtkbmigfkclnlaaaGreatDoor
open Go.RowKit Go.Rx

def look : List (Nat × Value) → Nat → Value
 | [], _ => undef
 | (k, v) :: r, t => if k = t then v else look r t

def evalK (K : List (Nat × Value)) : Operand → Value
 | .tmp t => look K t
 | o => (⟨#[], []⟩ : Act).eval o

structure Agree (n : Nat) (a : Act) (K : List (Nat × Value)) : Prop where
 size : a.tmps.size = n
 defers : a.defers = []
 at_ : ∀ t, a.tmps.getD t undef = look K t

theorem Agree.eval {n : Nat} {a : Act} {K : List (Nat × Value)} (h : Agree n a K) : a.eval = evalK K := by
 funext o
 cases o with
 | tmp t => exact h.at_ t
 | _ => rfl

theorem Agree.put {n : Nat} {a : Act} {K : List (Nat × Value)} (h : Agree n a K) (d : Nat) (hd : d < n) (v : Value) : Agree n (a.put (some d) v) ((d, v) :: K) := by
 have hs := h.size
 refine ⟨?_, h.defers, fun t => ?_⟩
 ·simp [Act.put, hs]
 ·have h1 := h.at_ t
  simp only [look]
  by_cases e : d = t
  ·subst e
   rw [if_pos rfl]
   simp [Act.put, hs, hd]
  ·rw [if_neg e, ← h1]
   simp [Act.put, e, Array.getD_eq_getD_getElem?]

theorem Agree.none {n : Nat} {a : Act} {K : List (Nat × Value)} (h : Agree n a K) (v : Value) : Agree n (a.put none v) K := h

def runK (P : Program) (n : Nat) : List Oper → List (Nat × Value) → World → Option (List (Nat × Value) × World)
 | [], K, w => some (K, w)
 | o :: r, K, w =>
  match o.guard with
  | some _ => none
  | none =>
   match (execOp (evalK K) o).run P w with
   | .ok (.value v) w' =>
    match o.dst with
    | some d => if d < n then runK P n r ((d, v) :: K) w' else none
    | none => runK P n r K w'
   | .ok .skip w' =>
    match o.dst with
    | some _ => none
    | none => runK P n r K w'
   | _ => none

section
variable {P : Program} {ops : Array Oper} {Q : Exit → Act → World → Prop}

theorem wpList_run {n : Nat} {rest : List Oper} : ∀ (l : List Oper) (K : List (Nat × Value)) (w : World) (K' : List (Nat × Value)) (w' : World), runK P n l K w = some (K', w') →
  (∀ a', Agree n a' K' → wpList P ops Q rest a' w') → ∀ a, Agree n a K → wpList P ops Q (l ++ rest) a w
 | [], K, w, K', w', h, g, a, ha => by
  simp only [runK, Option.some.injEq, Prod.mk.injEq] at h
  obtain ⟨rfl, rfl⟩ := h
  exact g a ha
 | o :: r, K, w, K', w', h, g, a, ha => by
  unfold runK at h
  cases hg : o.guard with
  | some x => rw [hg] at h; cases h
  | none =>
   rw [hg] at h
   dsimp only at h
   refine wpList_plain hg fun F hF => ?_
   unfold Oper.wp
   rw [ha.eval]
   cases hr : (execOp (evalK K) o).run P w with
   | ok x w1 =>
    rw [hr] at h
    cases x with
    | value v =>
     dsimp only at h
     refine hF _ _ ?_
     cases hd : o.dst with
     | some d =>
      rw [hd] at h
      dsimp only at h
      split at h
      ·rename_i hlt
       exact wpList_run r _ _ K' w' h g _ (ha.put d hlt v)
      ·cases h
     | none =>
      rw [hd] at h
      exact wpList_run r _ _ K' w' h g _ (ha.none v)
    | skip =>
     dsimp only at h
     refine hF _ _ ?_
     cases hd : o.dst with
     | some d => rw [hd] at h; cases h
     | none =>
      rw [hd] at h
      exact wpList_run r _ _ K' w' h g _ (ha.none undef)
    | defer d => cases h
    | enter f args => cases h
    | row x args => cases h
    | _ => cases h
   | halt e w1 => rw [hr] at h; cases h

def headRegion : Code → Option (Array Oper × Code)
 | .seq (.region _ ops false) d => some (ops, d)
 | _ => none

theorem headRegion_is {c d : Code} {o : Array Oper} (h : headRegion c = some (o, d)) : ∃ id, c = .seq (.region id o false) d := by
 unfold headRegion at h
 split at h
 ·simp only [Option.some.injEq, Prod.mk.injEq] at h
  obtain ⟨rfl, rfl⟩ := h
  exact ⟨_, rfl⟩
 ·cases h

def runTo (P : Program) (n : Nat) : Nat → Code → List (Nat × Value) → World → Option (Code × List (Nat × Value) × World)
 | 0, c, a, w => some (c, a, w)
 | k + 1, c, a, w =>
  match headRegion c with
  | none => none
  | some (ops, d) =>
   match runK P n ops.toList a w with
   | some (a', w') => runTo P n k d a' w'
   | none => none

theorem wp_runTo {n : Nat} : ∀ (k : Nat) (c : Code) (K : List (Nat × Value)) (w : World) (c' : Code) (K' : List (Nat × Value)) (w' : World), runTo P n k c K w = some (c', K', w') →
  (∀ a', Agree n a' K' → c'.wp P Q a' w') → ∀ a, Agree n a K → c.wp P Q a w
 | 0, c, K, w, c', K', w', h, g, a, ha => by
  simp only [runTo, Option.some.injEq, Prod.mk.injEq] at h
  obtain ⟨rfl, rfl, rfl⟩ := h
  exact g a ha
 | k + 1, c, K, w, c', K', w', h, g, a, ha => by
  unfold runTo at h
  cases hc : headRegion c with
  | none => rw [hc] at h; cases h
  | some x =>
   obtain ⟨o, d⟩ := x
   rw [hc] at h
   dsimp only at h
   obtain ⟨id, rfl⟩ := headRegion_is hc
   cases h1 : runK P n o.toList K w with
   | none => rw [h1] at h; cases h
   | some y =>
    obtain ⟨K1, w1⟩ := y
    rw [h1] at h
    dsimp only at h
    refine wp_seq_k fun F hF => wp_region_list ?_
    have := wpList_run (P := P) (ops := o) (Q := Exit.then F Q) (rest := []) o.toList K w K1 w1 h1 (fun a1 h2 => hF a1 w1 (wp_runTo k d K1 w1 c' K' w' h g a1 h2)) a ha
    rw [List.append_nil] at this
    exact this

theorem wp_part {n k m id : Nat} {c d : Code} {ops' : Array Oper} {K K1 K2 : List (Nat × Value)} {w w1 w2 : World} (h1 : runTo P n k c K w = some (.seq (.region id ops' false) d, K1, w1)) (h2 : runK P n (ops'.toList.take m) K1 w1 = some (K2, w2))
  (h : ∀ F : Act → World → Prop, (∀ a w, d.wp P Q a w → F a w) → ∀ a2, Agree n a2 K2 → wpList P ops' (Exit.then F Q) (ops'.toList.drop m) a2 w2) {a : Act} (ha : Agree n a K) : c.wp P Q a w := by
 refine wp_runTo k c K w _ _ _ h1 (fun a1 hb => ?_) a ha
 refine wp_seq_k fun F hF => wp_region_list ?_
 have := wpList_run (P := P) (ops := ops') (Q := Exit.then F Q) (rest := ops'.toList.drop m) (ops'.toList.take m) K1 w1 K2 w2 h2 (h F hF) a1 hb
 rw [List.take_append_drop] at this
 exact this
end

theorem wpList_enter {P : Program} {ops : Array Oper} {Q : Exit → Act → World → Prop} {n : Nat} {a : Act} {K : List (Nat × Value)} {o : Oper} {rest : List Oper} {w w1 : World} {f : FuncId} {args : Array Value} {G : Value → World → Prop} (hg : o.guard = none) (ha : Agree n a K)
  (hr : (execOp (evalK K) o).run P w = .ok (.enter f args) w1) (hc : Calls P f args w1 fun e w' => ∃ v, e = .returned v ∧ G v w')
  (h : ∀ v w', G v w' → wpList P ops Q rest (a.put o.dst v) w') : wpList P ops Q (o :: rest) a w := by
 refine wpList_plain hg fun F hF => ?_
 unfold Oper.wp
 rw [ha.eval, hr]
 show Calls P f args w1 _
 refine hc.mono ?_
 rintro e w' ⟨v, rfl, hv⟩
 exact hF _ _ (h v w' hv)

theorem agree_start (n : Nat) : Agree n ⟨#[] ++ Array.replicate (n - (#[] : Array Value).size) undef, []⟩ [] := by
 refine ⟨by simp, rfl, fun t => ?_⟩
 simp only [look]
 simp [Array.getD_eq_getD_getElem?, Array.getElem?_replicate]
 split <;> rfl

def allocs (w : World) (l : List Obj) : World := l.foldl World.alloc w
theorem allocs_size (l : List Obj) : ∀ w : World, (allocs w l).heap.size = w.heap.size + l.length := by
 induction l with
 | nil => intro w; rfl
 | cons o l ih =>
  intro w
  have h := ih (w.alloc o)
  show (allocs (w.alloc o) l).heap.size = _
  rw [h]
  simp
  omega
theorem allocs_chg (l : List Obj) : ∀ w : World, Chg [] w (allocs w l) := by
 induction l with
 | nil => intro w; exact Chg.refl w
 | cons o l ih => intro w; exact ((Chg.alloc w o).trans (ih (w.alloc o))).mono (fun b hb _ => by cases hb)
theorem allocs_blk (l : List Obj) : ∀ (w : World) (j : Nat) (cs : List Value) (t : TypeId), l[j]? = some (.cells cs.toArray t) → Blk (allocs w l) (w.heap.size + j) cs t := by
 induction l with
 | nil => intro w j cs t h; simp at h
 | cons o l ih =>
  intro w j cs t h
  cases j with
  | zero =>
   simp at h
   subst h
   exact (Blk.new w cs t).chg (allocs_chg l _) (by simp)
  | succ j =>
   have := ih (w.alloc o) j cs t (by simpa using h)
   have e : (w.alloc o).heap.size + j = w.heap.size + (j + 1) := by simp; omega
   rw [e] at this
   exact this

end Go.Proofs.YtkbmigfkclnlaaaGreatDoor
namespace Go.Proofs.YtkbmigfkclnlaaaGreatDoor
open Go.RowKit Go.Rx

def lastOps (c : Code) : Array Oper := match headRegion c with | some (o, _) => o | none => #[]
def runeObj (l : List Int) : Obj := .cells (l.map fun x => Value.int .i32 x).toArray 21
def slAt (w : World) (tab : List (List Int)) (r : Run) : Option Nat → Sl
 | none => (none, 0, 0)
 | some j => (some ⟨(allocs w ((tab.map runeObj).take j)).heap.size, 0, none⟩, r.rune.length, r.rune.length)
def runsOf (w : World) (tab : List (List Int)) (ix : List (Option Nat)) (rs : List Run) : List (Run × Sl) := (rs.zip ix).map fun x => (x.1, slAt w tab x.1 x.2)
def runsCells (l : List (Run × Sl)) : List Value := l.flatMap fun x => runCells x.1 (slV x.2)
def noOp : Oper := { dst := none, op := .move (.const (.bool false)), type := 0, pos := "", after := #[], guard := none }
def opN (c : Code) (i : Nat) : Oper := (lastOps c).toList.getD i noOp
def partsOf (o : Oper) : Array (Nat × Operand) := match o.op with | .buildSlice _ _ p => p | _ => #[]
def runVal (x : Run × Sl) : Value := .agg (runCells x.1 (slV x.2)).toArray
noncomputable def knOf (x : Option (Code × List (Nat × Value) × World)) : List (Nat × Value) := match x with | some (_, a, _) => a | none => []
noncomputable def knOf2 (x : Option (List (Nat × Value) × World)) : List (Nat × Value) := match x with | some (a, _) => a | none => []

def refTab : List (List Int) := [[48, 57, 65, 90, 97, 122], [45, 45, 48, 57, 65, 90, 97, 122], [46], [91], [48, 58, 65, 70, 97, 102], [93], [58], [48, 57], [47], [48, 57, 97, 122], [46, 46, 95, 95], [95], [45], [48, 57, 65, 90, 95, 95, 97, 122], [45, 46, 48, 57, 65, 90, 95, 95, 97, 122], [64], [65, 90, 97, 122], [43, 43, 45, 46, 95, 95], [48, 57, 65, 70, 97, 102]]
def refIx : List (Option Nat) := [none, none, none, some 0, none, some 1, none, some 0, none, some 2, some 0, none, some 1, none, some 0, none, none, some 3, some 4, none, some 5, none, some 6, some 7, none, none, some 8, none, some 9, none, some 10, some 11, some 11, none, some 12, none, none, some 9, none, none, some 8, some 9, none, some 10, some 11, some 11, none, some 12, none, none, some 9, none, none, none, none, some 6, none, some 13, some 14, some 14, none, none, none, some 15, none, some 16, some 0, none, some 17, some 16, some 0, none, none, some 6, some 18, none, none, none, none, none]
noncomputable def refBody : Code := Tryz.f48.body.getD .skip
noncomputable def refTo (w : World) := runTo Tryz.prog Tryz.f48.ntmps 20 refBody [] w
noncomputable def refRest : Code := dropSeq 20 refBody
theorem ref_rest : refRest = .seq (.region 20 (lastOps refRest) false) .ret := by kernel_rfl
theorem ref_to (w : World) : refTo w = some (refRest, knOf (refTo w), allocs w (refTab.map runeObj)) := by kernel_rfl
noncomputable def refPart (w : World) := runK Tryz.prog Tryz.f48.ntmps ((lastOps refRest).toList.take 118) (knOf (refTo w)) (allocs w (refTab.map runeObj))
theorem ref_part (w : World) : refPart w = some (knOf2 (refPart w), allocs w (refTab.map runeObj)) := by kernel_rfl
theorem ref_drop : (lastOps refRest).toList.drop 118 = opN refRest 118 :: opN refRest 119 :: (lastOps refRest).toList.drop 120 := by kernel_rfl
theorem ref_bs : (opN refRest 118).op = .buildSlice 133 80 (partsOf (opN refRest 118)) ∧ (opN refRest 118).guard = none ∧ (opN refRest 118).dst = some 157 := ⟨by kernel_rfl, by kernel_rfl, by kernel_rfl⟩
theorem ref_call : (opN refRest 119).guard = none ∧ (opN refRest 119).dst = some 158 := ⟨by kernel_rfl, by kernel_rfl⟩
theorem ref_vals (w : World) : ((partsOf (opN refRest 118)).toList.map fun x => (x.1, evalK (knOf2 (refPart w)) x.2)) = (((runsOf w refTab refIx refRuns).map runVal).zipIdx 0).map fun x => (x.2, x.1) := by kernel_rfl

def nameTab : List (List Int) := [[48, 57, 65, 90, 97, 122], [45, 45, 48, 57, 65, 90, 97, 122], [46], [91], [48, 58, 65, 70, 97, 102], [93], [58], [48, 57], [47], [48, 57, 97, 122], [46, 46, 95, 95], [95], [45]]
def nameIx : List (Option Nat) := [none, none, none, some 0, none, some 1, none, some 0, none, some 2, some 0, none, some 1, none, some 0, none, none, some 3, some 4, none, some 5, none, some 6, some 7, none, none, none, some 8, none, none, some 9, none, some 10, some 11, some 11, none, some 12, none, none, some 9, none, none, some 8, some 9, none, some 10, some 11, some 11, none, some 12, none, none, some 9, none, none, none, none, none, none]
noncomputable def nameBody : Code := Tryz.f50.body.getD .skip
noncomputable def nameTo (w : World) := runTo Tryz.prog Tryz.f50.ntmps 14 nameBody [] w
noncomputable def nameRest : Code := dropSeq 14 nameBody
theorem name_rest : nameRest = .seq (.region 14 (lastOps nameRest) false) .ret := by kernel_rfl
theorem name_to (w : World) : nameTo w = some (nameRest, knOf (nameTo w), allocs w (nameTab.map runeObj)) := by kernel_rfl
noncomputable def namePart (w : World) := runK Tryz.prog Tryz.f50.ntmps ((lastOps nameRest).toList.take 85) (knOf (nameTo w)) (allocs w (nameTab.map runeObj))
theorem name_part (w : World) : namePart w = some (knOf2 (namePart w), allocs w (nameTab.map runeObj)) := by kernel_rfl
theorem name_drop : (lastOps nameRest).toList.drop 85 = opN nameRest 85 :: opN nameRest 86 :: (lastOps nameRest).toList.drop 87 := by kernel_rfl
theorem name_bs : (opN nameRest 85).op = .buildSlice 133 59 (partsOf (opN nameRest 85)) ∧ (opN nameRest 85).guard = none ∧ (opN nameRest 85).dst = some 112 := ⟨by kernel_rfl, by kernel_rfl, by kernel_rfl⟩
theorem name_call : (opN nameRest 86).guard = none ∧ (opN nameRest 86).dst = some 113 := ⟨by kernel_rfl, by kernel_rfl⟩
theorem name_vals (w : World) : ((partsOf (opN nameRest 85)).toList.map fun x => (x.1, evalK (knOf2 (namePart w)) x.2)) = (((runsOf w nameTab nameIx nameRuns).map runVal).zipIdx 0).map fun x => (x.2, x.1) := by kernel_rfl

end Go.Proofs.YtkbmigfkclnlaaaGreatDoor
namespace Go.Proofs.YtkbmigfkclnlaaaGreatDoor
open Go.RowKit Go.Rx

theorem chunk_get {α β : Type} (f : α → List β) (s : Nat) (hf : ∀ a, (f a).length = s) : ∀ (l : List α) (k j : Nat), j < s → (l.flatMap f)[k * s + j]? = (l[k]?).bind fun a => (f a)[j]?
 | [], k, j, _ => by simp
 | a :: l, 0, j, hj => by
  rw [List.flatMap_cons, Nat.zero_mul, Nat.zero_add, List.getElem?_append_left (by rw [hf]; exact hj)]
  rfl
 | a :: l, k + 1, j, hj => by
  have e : (k + 1) * s + j - s = k * s + j := by rw [Nat.succ_mul]; omega
  rw [List.flatMap_cons, List.getElem?_append_right (by rw [hf, Nat.succ_mul]; omega), hf, e, chunk_get f s hf l k j hj]
  rfl

def pairs (l : List (Run × Sl)) : List ((Run × Sl) × Nat) := l.flatMap fun x => (List.range x.1.n).map fun k => (x, k)

theorem allCells_pairs (l : List (Run × Sl)) : allCells l = (pairs l).flatMap fun y => instCells (y.1.1.inst y.2) (slV y.1.2) := by
 unfold allCells pairs rowCells
 rw [List.flatMap_assoc]
 congr 1
 funext x
 rw [List.flatMap_map]

theorem expand_pairs (l : List (Run × Sl)) : expand (l.map (·.1)) = (pairs l).map fun y => y.1.1.inst y.2 := by
 unfold expand pairs Run.insts
 rw [List.map_flatMap, List.flatMap_map]
 congr 1
 funext x
 rw [List.map_map]
 rfl

theorem total_pairs (l : List (Run × Sl)) : total l = (expand (l.map (·.1))).length := by
 unfold total expand Run.insts
 rw [List.flatMap_map, List.length_flatMap]
 simp

theorem allCells_at (l : List (Run × Sl)) {pc : Nat} {i : Inst} (h : (expand (l.map (·.1)))[pc]? = some i) :
  ∃ x, x ∈ l ∧ x.1.rune = i.rune ∧ ∀ j, j < 4 → (allCells l)[pc * 4 + j]? = (instCells i (slV x.2))[j]? := by
 rw [expand_pairs, List.getElem?_map] at h
 cases hp : (pairs l)[pc]? with
 | none => rw [hp] at h; cases h
 | some y =>
  rw [hp] at h
  simp at h
  subst h
  refine ⟨y.1, ?_, rfl, fun j hj => ?_⟩
  ·have hm := List.mem_of_getElem? hp
   unfold pairs at hm
   obtain ⟨x, hx, hy⟩ := List.mem_flatMap.1 hm
   obtain ⟨k, _, rfl⟩ := List.mem_map.1 hy
   exact hx
  ·rw [allCells_pairs, chunk_get _ 4 (fun _ => rfl) _ _ _ hj, hp]
   rfl

theorem runsAt_blk {w : World} {B : Nat} {l : List (Run × Sl)} {t : TypeId} (h : Blk w B (runsCells l) t) : RunsAt w B l := by
 intro i x hx j u hu
 have hj : j < 9 := by
  have := (List.getElem?_eq_some_iff.1 hu).1
  simpa [runCells] using this
 rw [h.cell]
 unfold runsCells
 rw [chunk_get _ 9 (fun _ => rfl) _ _ _ hj, hx]
 exact hu

theorem ownsRow_cell {w : World} {base n : Nat} {e : TypeId} {sz : Nat} {v : Value} {xs : List Value} (h : w.ownsRow base e sz v n xs) (hn : 0 < n) : ∃ g cap, v = .slice (some ⟨g, 0, none⟩) n cap ∧ base ≤ g ∧ g < w.heap.size ∧ ∀ i, i < n * sz → w.cell? ⟨g, i, none⟩ = xs[i]? := by
 obtain ⟨h1, h2⟩ := h
 rcases h2 with ⟨_, h2⟩ | ⟨g, cap, cur, rfl, hb, hg, hc, hc2, hs, hx⟩
 ·omega
 ·refine ⟨g, cap, rfl, hb, (Array.getElem?_eq_some_iff.1 hg).1, fun i hi => ?_⟩
  rw [← hx, List.getElem?_take, if_pos hi]
  simp [World.cell?, hg]

def runOkB (r : Run) : Bool := decide (r.n ≤ 1000) && decide (r.op < 100) && decide (r.out < 100000) && decide (r.arg < 100000) &&
 (List.range r.n).all fun k => decide ((r.out : Int) + k * r.dout = ((r.inst k).out : Nat)) && decide ((r.inst k).out < 100000) && decide ((r.arg : Int) + k * r.darg = ((r.inst k).arg : Nat)) && decide ((r.inst k).arg < 100000)

theorem runOk_of {r : Run} (h : runOkB r = true) : RunOk r := by
 simp only [runOkB, Bool.and_eq_true, decide_eq_true_eq, List.all_eq_true, List.mem_range] at h
 obtain ⟨⟨⟨⟨h1, h2⟩, h3⟩, h4⟩, h5⟩ := h
 exact ⟨h1, fun k hk => ⟨(h5 k hk).1.1.1, (h5 k hk).1.1.2⟩, fun k hk => ⟨(h5 k hk).1.2, (h5 k hk).2⟩, h2, h3, h4⟩

def ixOk (tab : List (List Int)) (ix : List (Option Nat)) (rs : List Run) : Bool :=
 (rs.zip ix).all fun x => match x.2 with
  | none => x.1.rune.isEmpty
  | some j => match tab[j]? with | some l => l == x.1.rune | none => false

theorem runsOf_fst (w : World) (tab : List (List Int)) (ix : List (Option Nat)) (rs : List Run) (h : rs.length = ix.length) : (runsOf w tab ix rs).map (·.1) = rs := by
 unfold runsOf
 rw [List.map_map]
 show (rs.zip ix).map (fun x => x.1) = rs
 rw [show (fun x : Run × Option Nat => x.1) = Prod.fst from rfl]
 exact List.map_fst_zip (by omega)

theorem runes_of {w w' : World} {tab : List (List Int)} {ix : List (Option Nat)} {rs : List Run} (h : ixOk tab ix rs = true) (hb : ∀ j l, tab[j]? = some l → Blk w' (w.heap.size + j) (l.map (Value.int .i32)) 21) (x : Run × Sl) (hx : x ∈ runsOf w tab ix rs) : RunesAt w' w'.heap.size (slV x.2) x.1.rune := by
 unfold runsOf at hx
 obtain ⟨⟨r, o⟩, hm, rfl⟩ := List.mem_map.1 hx
 have hk := (List.all_eq_true.1 h) (r, o) hm
 cases o with
 | none =>
  left
  exact ⟨rfl, by simpa using hk⟩
 | some j =>
  right
  dsimp only at hk
  cases ht : tab[j]? with
  | none => rw [ht] at hk; cases hk
  | some l =>
   rw [ht] at hk
   have e : l = r.rune := by simpa using hk
   subst e
   have b := hb j _ ht
   have hj : j < tab.length := (List.getElem?_eq_some_iff.1 ht).1
   have hs : (allocs w ((tab.map runeObj).take j)).heap.size = w.heap.size + j := by
    rw [allocs_size, List.length_take, List.length_map]
    omega
   refine ⟨w.heap.size + j, r.rune.length, ?_, b.lt, fun i y hy => ?_⟩
   ·show slV (slAt w tab r (some j)) = _
    simp only [slAt, slV, hs]
   ·rw [b.cell, List.getElem?_map, hy]
    rfl

structure ReAt (w : World) (R PR I : Nat) (l : List Inst) (mbs mp nc nsub : Nat) : Prop where
 prog : ProgAt w w.heap.size R PR I l.length (progOf l)
 sub : w.cell? ⟨R, 3, none⟩ = some (.int .i64 nsub)
 mbs : w.cell? ⟨R, 4, none⟩ = some (.int .i64 mbs)
 pre : w.cell? ⟨R, 6, none⟩ = some (.string ByteArray.empty)
 mpool : w.cell? ⟨R, 10, none⟩ = some (.int .i64 mp)
 mcap : w.cell? ⟨R, 11, none⟩ = some (.int .i64 nc)
 cond : w.cell? ⟨R, 13, none⟩ = some (.int .u8 4)
 min : w.cell? ⟨R, 14, none⟩ = some (.int .i64 1)
 start : w.cell? ⟨PR, 1, none⟩ = some (.int .i64 1)
 ncap : w.cell? ⟨PR, 2, none⟩ = some (.int .i64 nc)

def progCells (v : Value) (nc : Nat) : List Value := [v, .int .i64 1, .int .i64 nc]
def reCells (ex : ByteArray) (PR S nsub mbs mp nc : Nat) : List Value :=
 [.string ex, .pointer (some ⟨PR, 0, none⟩), .pointer none, .int .i64 nsub, .int .i64 mbs, .slice (some ⟨S, 0, none⟩) (nsub + 1) (nsub + 1), .string ByteArray.empty, .slice none 0 0, .int .i32 0, .int .u32 0, .int .i64 mp, .int .i64 nc, .bool false, .int .u8 4, .int .i64 1, .bool false]

theorem re_at {w w3 w4 : World} {tab : List (List Int)} {ix : List (Option Nat)} {rs : List Run} {ex : ByteArray} {v : Value} {R PR S nsub mbs mp nc : Nat} {t1 t2 : TypeId} (hlen : rs.length = ix.length) (hix : ixOk tab ix rs = true) (hpos : 0 < (expand rs).length)
  (hb : ∀ j l, tab[j]? = some l → Blk w4 (w.heap.size + j) (l.map (Value.int .i32)) 21) {base : Nat} (hw : w3.ownsRow base 122 4 v (total (runsOf w tab ix rs)) (allCells (runsOf w tab ix rs))) (hc : Chg [] w3 w4)
  (hP : Blk w4 PR (progCells v nc) t1) (hR : Blk w4 R (reCells ex PR S nsub mbs mp nc) t2) : ∃ I, ReAt w4 R PR I (expand rs) mbs mp nc nsub := by
 have hfst := runsOf_fst w tab ix rs hlen
 have htot : total (runsOf w tab ix rs) = (expand rs).length := by rw [total_pairs, hfst]
 rw [htot] at hw
 obtain ⟨g, cap, rfl, hg, hgl, hcell⟩ := ownsRow_cell hw hpos
 refine ⟨g, ?_⟩
 have cell4 : ∀ i, i < (expand rs).length * 4 → w4.cell? ⟨g, i, none⟩ = (allCells (runsOf w tab ix rs))[i]? := fun i hi => by
  rw [← hcell i hi]
  exact World.cell?_of_block (hc.block g hgl (by simp))
 have inst : ∀ pc, 0 < pc → pc < (expand rs).length → ∃ x, x ∈ runsOf w tab ix rs ∧ x.1.rune = (progOf (expand rs) pc).rune ∧ ∀ j, j < 4 → w4.cell? ⟨g, pc * 4 + j, none⟩ = (instCells (progOf (expand rs) pc) (slV x.2))[j]? := by
  intro pc h0 h1
  have e : (expand rs)[pc]? = some (progOf (expand rs) pc) := by
   unfold progOf
   rw [if_neg (by omega), List.getD_eq_getElem?_getD, List.getElem?_eq_getElem h1]
   rfl
  obtain ⟨x, hx, hr, hj⟩ := allCells_at (runsOf w tab ix rs) (pc := pc) (i := progOf (expand rs) pc) (by rw [hfst]; exact e)
  exact ⟨x, hx, hr, fun j h => by rw [cell4 _ (by omega)]; exact hj j h⟩
 refine ⟨⟨Nat.le_refl _, ⟨hR.lt, hP.lt, Nat.lt_of_lt_of_le hgl hc.size⟩, (hR.cell 1).trans rfl, (hR.cell 15).trans rfl, ⟨cap, (hP.cell 0).trans rfl⟩, ?_, ?_, ?_, ?_⟩, (hR.cell 3).trans rfl, (hR.cell 4).trans rfl, (hR.cell 6).trans rfl, (hR.cell 10).trans rfl, (hR.cell 11).trans rfl, (hR.cell 13).trans rfl, (hR.cell 14).trans rfl, (hP.cell 1).trans rfl, (hP.cell 2).trans rfl⟩
 ·intro pc h0 h1
  obtain ⟨x, _, _, hj⟩ := inst pc h0 h1
  exact hj 0 (by omega)
 ·intro pc h0 h1
  obtain ⟨x, _, _, hj⟩ := inst pc h0 h1
  exact hj 1 (by omega)
 ·intro pc h0 h1
  obtain ⟨x, _, _, hj⟩ := inst pc h0 h1
  exact hj 2 (by omega)
 ·intro pc h0 h1
  obtain ⟨x, hx, hr, hj⟩ := inst pc h0 h1
  refine ⟨slV x.2, hj 3 (by omega), ?_⟩
  rw [← hr]
  exact runes_of hix hb x hx

end Go.Proofs.YtkbmigfkclnlaaaGreatDoor
