/-
FnRefNormalSelf: the regular expressions, the digest and the reference, part 17 of 26.
-/
import Derived.Test.YtkbmigfkclnlaaaGreatDoorV16
import Derived.Test.YtkbmigfkclnlaaaGreatDoorV08
import Derived.Test.YtkbmigfkclnlaaaGreatDoorV15
set_option linter.all false
namespace Go.Rx
namespace Env
variable {E E' : Env}

theorem stepF_same (p k : Nat) (hp : E'.prog = E.prog) (hs : E'.st = E.st) (ht : E'.takes = E.takes) (h0 : ∀ pc, E.takes (E.prog pc) (E.st p).1 = false) : ∀ (r n : List Entry) (m : Option (List Int)), stepF E' p k r n m = stepF E p k r n m
 | [], _, _ => rfl
 | (_, none) :: r, n, m => stepF_same p k hp hs ht h0 r n m
 | (pc, some c) :: r, n, m => by
  unfold stepF
  rw [hp, hs, ht]
  split
  ·rfl
  ·rw [if_neg (by rw [h0]; simp), if_neg (by rw [h0]; simp)]
   exact stepF_same p k hp hs ht h0 r n m

structure Head (E : Env) (c0 r : List Int) (p : Nat) (q : List Entry) (m : Option (List Int)) (mcap : List Int) : Prop where
 waits : Waits E q
 met : MetAll E p q
 zero : p = 0 → q = [] ∧ m = none ∧ mcap.set 0 ((0 : Nat) : Int) = c0
 val : p ≠ 0 → (val E p q).or m = some r

structure Full (E : Env) (r : List Int) (p : Nat) (q : List Entry) (m : Option (List Int)) : Prop where
 waits : Waits E q
 met : MetAll E p q
 val : (val E p q).or m = some r

theorem Head.add {c0 r : List Int} {p k : Nat} {q : List Entry} {mcap : List Int} (an : Anch E 1) (hk : E.top ≤ k) (h : Head E c0 r p q none mcap) (hr : res E 1 0 c0 = some r) :
  Full E r p (addF E p k q 1 (mcap.set 0 (p : Int))) none := by
 obtain ⟨v, a⟩ := metAll_one p k 1 (mcap.set 0 (p : Int)) an hk q h.met
 refine ⟨addF_waits an.ok p k q 1 _ h.waits, a, ?_⟩
 rw [v, Option.or_none]
 by_cases hp : p = 0
 ·subst hp
  obtain ⟨h1, _, h3⟩ := h.zero rfl
  rw [h1, h3, hr]
  rfl
 ·have := h.val hp
  rw [Option.or_none] at this
  rw [an.begin p _ (by omega), Option.or_none, this]

theorem Head.on {c0 r c : List Int} {p : Nat} {q : List Entry} {mcap : List Int} (h : Head E c0 r p q (some c) mcap) : Full E r p q (some c) := by
 refine ⟨h.waits, h.met, h.val fun hp => ?_⟩
 have := (h.zero hp).2.1
 cases this

theorem Head.dead {c0 r : List Int} {p : Nat} {q : List Entry} {m : Option (List Int)} {mcap : List Int} (h : Head E c0 r p q m mcap) (hp : p ≠ 0) (hq : q = []) : m = some r := by
 have := h.val hp
 rw [hq] at this
 simpa [Env.val] using this

theorem Full.next {c0 r : List Int} {p k : Nat} {q : List Entry} {m : Option (List Int)} (an : Anch E 1) (hk : E.top ≤ k) (h : Full E r p q m) (hp : p < E.n) {n : List Entry} {m1 : Option (List Int)} (hs : (n, m1) = stepF E p k q [] m) (mcap : List Int) :
  Head E c0 r (p + (E.st p).2) n m1 mcap := by
 obtain ⟨v, w, a⟩ := stepF_spec an.ok an.zero p k hk q [] m h.waits (fun _ _ hh => by cases hh) (metAll_nil _)
 rw [← hs] at v w a
 have := an.on p hp
 refine ⟨w, a, fun e => by omega, fun _ => ?_⟩
 rw [v, ← h.val]
 rfl

theorem Full.stop {r : List Int} {p k : Nat} {q : List Entry} {m : Option (List Int)} (an : Anch E 1) (hk : E.top ≤ k) (h : Full E r p q m) (hp : E.n ≤ p) {n : List Entry} {m1 : Option (List Int)} (hs : (n, m1) = stepF E p k q [] m) :
  n = [] ∧ m1 = some r := by
 obtain ⟨v, w, a⟩ := stepF_spec an.ok an.zero p k hk q [] m h.waits (fun _ _ hh => by cases hh) (metAll_nil _)
 have h1 := stepF_none (E := E) p k (an.stop p hp).2 q [] m
 rw [← hs] at v h1
 dsimp only at v h1
 refine ⟨h1, ?_⟩
 rw [h1] at v
 have e := h.val
 simp only [Env.val, Option.none_or] at v
 rw [v, e]

end Env
end Go.Rx
namespace Go.Proofs.YtkbmigfkclnlaaaGreatDoor
open Go.RowKit Go.Rx

def envAll (pg : Nat → Inst) (s : ByteArray) (rank : Nat → Nat) (top : Nat) : Env := { envAt pg s rank top with ew := fun _ _ => true }

structure Table (pg : Nat → Inst) (np : Nat) : Prop where
 t7 : ∀ pc, 0 < pc → pc < np → (pg pc).op = 7 → ClassLen (pg pc).rune.length
 t8 : ∀ pc, 0 < pc → pc < np → (pg pc).op = 8 → ∃ x, (pg pc).rune = [x]

theorem ok_all {pg : Nat → Inst} {s : ByteArray} {rank : Nat → Nat} {top : Nat} (h : (envAt pg s rank top).Ok) : (envAll pg s rank top).Ok :=
 ⟨h.wide, h.rank_lt, h.ends, h.ops, h.alt, h.free⟩

theorem rune_bd (s : ByteArray) (hs : Plain s) (p : Nat) : -1 ≤ runeAt s p ∧ runeAt s p < 1114112 ∧ (runeAt s p < 0 ↔ ¬ p < s.size) := by
 unfold runeAt
 split
 ·rename_i h
  have := hs p h
  refine ⟨by omega, by omega, by omega⟩
 ·rename_i h
  exact ⟨by omega, by omega, by omega⟩

theorem ahead_bd (s : ByteArray) (hs : Plain s) (p : Nat) (hp : p ≤ s.size) : -1 ≤ runeAhead s p ∧ runeAhead s p < 1114112 ∧ (runeAhead s p < 0 ↔ p = 0) := by
 unfold runeAhead
 split
 ·rename_i h
  exact ⟨by omega, by omega, by omega⟩
 ·rename_i h
  obtain ⟨a, b, c⟩ := rune_bd s hs (p - 1)
  refine ⟨a, b, ?_⟩
  rw [c]
  omega

section
variable {Y : SL} {s : ByteArray} {rank : Nat → Nat} {top p k : Nat}

theorem aenv_at (hs : Plain s) (hE : (envAt Y.L.pg s rank top).Ok) (hp : p ≤ s.size) (hf : Y.L.fl = flagOf (runeAhead s p) (runeAt s p)) : AEnv (Y.L.cb Y.L.MC) (envAt Y.L.pg s rank top) p := by
 obtain ⟨a1, a2, a3⟩ := ahead_bd s hs p hp
 obtain ⟨b1, b2, b3⟩ := rune_bd s hs p
 refine ⟨hE, fun pc _ _ => rfl, fun w => ?_, fun w => ?_⟩
 ·have h := flag_begin (flagOf (runeAhead s p) (runeAt s p)) w
  rw [flag_hi _ _ a1 a2] at h
  have e : (envAt Y.L.pg s rank top).ew 4 p = decide (runeAhead s p < 0) := by
   show decide (p = 0) = _
   exact decide_eq_decide.2 a3.symm
  rw [e]
  show Calls _ _ #[.int .u64 Y.L.fl, .int .u8 4] _ _
  rw [hf]
  exact h
 ·have h := flag_end (flagOf (runeAhead s p) (runeAt s p)) w
  rw [flag_lo _ _ b1 b2] at h
  have e : (envAt Y.L.pg s rank top).ew 8 p = decide (runeAt s p < 0) := by
   show decide (p = s.size) = _
   refine decide_eq_decide.2 ?_
   rw [b3]
   omega
  rw [e]
  show Calls _ _ #[.int .u64 Y.L.fl, .int .u8 8] _ _
  rw [hf]
  exact h

theorem aenv_all (hE : (envAt Y.L.pg s rank top).Ok) (hf : Y.L.fl = flagOf (-1) (-1)) : AEnv (Y.L.cb Y.L.MC) (envAll Y.L.pg s rank top) p := by
 refine ⟨ok_all hE, fun pc _ _ => rfl, fun w => ?_, fun w => ?_⟩
 ·have h := flag_begin (flagOf (-1) (-1)) w
  rw [flag_hi _ _ (by omega) (by omega)] at h
  show Calls _ _ #[.int .u64 Y.L.fl, .int .u8 4] _ _
  rw [hf]
  exact h
 ·have h := flag_end (flagOf (-1) (-1)) w
  rw [flag_lo _ _ (by omega) (by omega)] at h
  show Calls _ _ #[.int .u64 Y.L.fl, .int .u8 8] _ _
  rw [hf]
  exact h

theorem senv_at (hs : Plain s) (tb : Table Y.L.pg Y.L.np) (hE : (envAt Y.L.pg s rank top).Ok) (hk : top ≤ k) (hp : p < s.size) (hf : Y.L.fl = flagOf (runeAt s p) (runeAt s (p + 1))) : SEnv Y (envAt Y.L.pg s rank top) p k := by
 have e : ((envAt Y.L.pg s rank top).st p).2 = 1 := by show (if p < s.size then 1 else 0) = 1; rw [if_pos hp]
 refine ⟨?_, fun pc => Nat.lt_of_lt_of_le (hE.rank_lt pc) hk, fun pc _ _ => rfl, fun pc h1 h2 h3 => ⟨?_, tb.t7 pc h1 h2 h3⟩, fun pc h1 h2 h3 => ?_⟩
 ·rw [e]
  refine aenv_at hs hE (by omega) ?_
  have : runeAhead s (p + 1) = runeAt s p := by unfold runeAhead; rw [if_neg (by omega)]; rfl
  rw [this]
  exact hf
 ·show (if (Y.L.pg pc).op = 7 then classTakes (Y.L.pg pc).rune (runeAt s p) else decide ((Y.L.pg pc).rune = [runeAt s p])) = _
  rw [if_pos h3]
  rfl
 ·obtain ⟨x, hx⟩ := tb.t8 pc h1 h2 h3
  refine ⟨x, hx, ?_⟩
  show (if (Y.L.pg pc).op = 7 then classTakes (Y.L.pg pc).rune (runeAt s p) else decide ((Y.L.pg pc).rune = [runeAt s p])) = decide (x = runeAt s p)
  rw [if_neg (by omega), hx]
  exact decide_eq_decide.2 (by simp)

theorem senv_all (tb : Table Y.L.pg Y.L.np) (hE : (envAt Y.L.pg s rank top).Ok) (hk : top ≤ k) (hf : Y.L.fl = flagOf (-1) (-1)) : SEnv Y (envAll Y.L.pg s rank top) p k := by
 refine ⟨aenv_all hE hf, fun pc => Nat.lt_of_lt_of_le (hE.rank_lt pc) hk, fun pc _ _ => rfl, fun pc h1 h2 h3 => ⟨?_, tb.t7 pc h1 h2 h3⟩, fun pc h1 h2 h3 => ?_⟩
 ·show (if (Y.L.pg pc).op = 7 then classTakes (Y.L.pg pc).rune (runeAt s p) else decide ((Y.L.pg pc).rune = [runeAt s p])) = _
  rw [if_pos h3]
  rfl
 ·obtain ⟨x, hx⟩ := tb.t8 pc h1 h2 h3
  refine ⟨x, hx, ?_⟩
  show (if (Y.L.pg pc).op = 7 then classTakes (Y.L.pg pc).rune (runeAt s p) else decide ((Y.L.pg pc).rune = [runeAt s p])) = decide (x = runeAt s p)
  rw [if_neg (by omega), hx]
  exact decide_eq_decide.2 (by simp)

def Stepped (Y : SL) (PB : Nat) (R : List Env.Entry × Option (List Int)) (w : World) : Prop :=
 ∃ mcap m n pool pb, StepMem Y mcap m n pool [] pb 0 [] PB w ∧ (n.map fg, m) = R

theorem nodup_under : ∀ (n : Nat) (l : List Nat), l.Nodup → (∀ x, x ∈ l → x < n) → l.length ≤ n
 | 0, l, _, h => by
  cases l with
  | nil => exact Nat.le_refl _
  | cons a l => exact absurd (h a (List.mem_cons_self ..)) (by omega)
 | n + 1, l, hn, h => by
  have h1 := nodup_under n (l.erase n) (hn.erase n) (fun x hx => by
   have h2 := (hn.mem_erase_iff).1 hx
   have h3 := h x h2.2
   have h4 := h2.1
   omega)
  rw [List.length_erase] at h1
  split at h1 <;> omega

theorem st_len {L : AL} {c : List Int} {q : List CE} {pool : List Th} {hand : Option Nat} {w : World} (h : AddSt L c q pool hand w) (h0 : 0 < L.np) : q.length < L.np := by
 obtain ⟨hn, hl⟩ := h.pcs
 have h1 := nodup_under L.np (0 :: q.map (·.1)) (List.nodup_cons.2 ⟨fun hm => by
  obtain ⟨e, he, h2⟩ := List.mem_map.1 hm
  have := hl e he
  omega, hn⟩) (fun x hx => by
  rcases List.mem_cons.1 hx with rfl | hx
  ·exact h0
  ·obtain ⟨e, he, rfl⟩ := List.mem_map.1 hx
   exact (hl e he).2)
 simp at h1
 omega

theorem mid_call {E : Env} {mcap : List Int} {m : Option (List Int)} {q : List CE} {pool : List Th} {pb : Option (Nat × Nat)} {PB : Nat} {w : World} {f : Int} {r : Int} {p2 : Nat} (mo : MOk Y) (h : StepMem Y mcap m q pool [] pb 0 [] PB w) (hw : Env.Waits E (q.map fg)) (se : SEnv ((Y.fl f).swap) E p k) (hPB : PB + Y.L.np < 8900000000000) (hnp : 0 < Y.L.np)
  (hr : (E.st p).1 = r) (hp2 : p + (E.st p).2 = p2) :
  Calls Tryz.prog 109 #[.pointer (some ⟨Y.L.M, 0, none⟩), .pointer (some ⟨Y.L.M, Y.L.qo, none⟩), .pointer (some ⟨Y.L.M, Y.ro, none⟩), .int .i64 p, .int .i64 (p2 : Nat), .int .i32 r, .pointer (some ⟨Y.L.F, 0, none⟩)] (w.setCell ⟨Y.L.F, 0, none⟩ (.int .u64 f)) fun e w1 =>
   e = .returned (.tuple #[]) ∧ Stepped ((Y.fl f).swap) (PB + Y.L.np) (Env.stepF E p k (q.map fg) [] m) w1 := by
 have mo1 := (mo.fl f).swap
 have hlen := st_len h.st.st hnp
 have hb := h.bound
 simp at hb
 have h1 := (h.flag f).swap (PB' := PB + Y.L.np) (mo.fl f) (by have : q.length < Y.L.np := hlen; omega)
 have hq := h.st.st.pcs.2
 have hnq : Y.L.np ≤ Y.L.nq := mo.so.ok.np.1
 have key := step_sim (n := []) mo1.so se hq hw (by show q.length < Y.L.nq; have : q.length < Y.L.np := hlen; omega) hPB mo.m0 h1 rfl
 subst hr
 subst hp2
 refine key.mono ?_
 rintro e w' ⟨rfl, mcap', m', n', pool', pb', hm, hR⟩
 refine ⟨rfl, mcap', m', n', pool', pb', ?_, hR⟩
 exact hm.fresh (by have := hm.bound; simpa using this)

end
end Go.Proofs.YtkbmigfkclnlaaaGreatDoor
namespace Go.Proofs.YtkbmigfkclnlaaaGreatDoor
open Go.RowKit Go.Rx

def wdAt (s : ByteArray) (p : Nat) : Nat := if p < s.size then 1 else 0

theorem wdAt_in {s : ByteArray} {p : Nat} (h : p < s.size) : wdAt s p = 1 := by unfold wdAt; rw [if_pos h]
theorem wdAt_out {s : ByteArray} {p : Nat} (h : ¬ p < s.size) : wdAt s p = 0 := by unfold wdAt; rw [if_neg h]
theorem runeAt_out {s : ByteArray} {p : Nat} (h : ¬ p < s.size) : runeAt s p = -1 := by unfold runeAt; rw [dif_neg h]

theorem step_at {o : Nat} (B p : Nat) (s : ByteArray) (hs : Plain s) (hsz : s.size < 100000000000) (w : World) (h : w.cell? ⟨B, o, none⟩ = some (.string s)) :
  Calls Tryz.prog 174 #[.pointer (some ⟨B, o, none⟩), .int .i64 p] w fun e w' => e = .returned (.tuple #[.int .i32 (runeAt s p), .int .i64 (wdAt s p : Nat)]) ∧ w' = w := by
 by_cases hp : p < s.size
 ·rw [wdAt_in hp]
  have e : runeAt s p = ((s[p]'hp).toNat : Nat) := by unfold runeAt; rw [dif_pos hp]
  rw [e]
  exact step_in B p s w h hp (hs p hp) hsz
 ·rw [wdAt_out hp, runeAt_out hp]
  exact step_end B p s w h hp

section
variable {Y : SL} {s : ByteArray} {rank : Nat → Nat} {top p k : Nat} {c0 r : List Int} {mcap : List Int} {m : Option (List Int)} {q : List CE} {pool : List Th} {pb : Option (Nat × Nat)} {PB : Nat} {w : World} {Q : Exit → Act → World → Prop}

structure MCells (Y : SL) (n : Nat) (b : Bool) (w : World) : Prop where
 c0 : w.cell? ⟨Y.L.M, 0, none⟩ = some (.pointer (some ⟨Y.L.R, 0, none⟩))
 c1 : w.cell? ⟨Y.L.M, 1, none⟩ = some (.pointer (some ⟨Y.L.PR, 0, none⟩))
 cq : w.cell? ⟨Y.L.M, Y.L.qo + 1, none⟩ = some (.slice (some ⟨Y.L.D, 0, none⟩) n Y.L.nq)
 cr : w.cell? ⟨Y.L.M, Y.ro + 1, none⟩ = some (.slice (some ⟨Y.Dr, 0, none⟩) 0 Y.L.nq)
 c7 : w.cell? ⟨Y.L.M, 7, none⟩ = some (.bool b)
 c8 : w.cell? ⟨Y.L.M, 8, none⟩ = some (.slice (some ⟨Y.L.MC, 0, none⟩) Y.L.nc Y.L.nc)
 c9 : w.cell? ⟨Y.L.M, 9, none⟩ = Y.L.ml[9]?
 lM : Y.L.M < w.heap.size

theorem StepMem.mcells (mo : MOk Y) (h : StepMem Y mcap m q pool [] pb 0 [] PB w) : MCells Y q.length m.isSome w := by
 have st := h.st.st
 have hqo : Y.L.qo = 2 ∨ Y.L.qo = 4 := mo.so.ok.qo
 have hro := mo.so.ro
 have hne := mo.so.ne
 have aok := SL.aok mo.so pb 0 m.isSome Y.L.MC
 obtain ⟨a1, a2, a3, a4, a5⟩ := AL.mc aok q.length pool.length
 obtain ⟨b1, b2, b3, b4, b5⟩ := SL.cells mo.so pb 0 m.isSome q.length pool.length
 have hM := st.mblk
 refine ⟨?_, (hM.cell 1).trans a1, (hM.cell _).trans a3, (hM.cell _).trans b1, (hM.cell 7).trans b2, (hM.cell 8).trans b4, ?_, hM.lt⟩
 ·refine (hM.cell 0).trans ?_
  show ((((Y.L.ml.set (Y.ro + 1) _).set 7 _).set (Y.L.qo + 1) _).set 6 _)[0]? = _
  rw [List.getElem?_set_ne (by omega), List.getElem?_set_ne (by omega), List.getElem?_set_ne (by omega), List.getElem?_set_ne (by omega)]
  exact mo.m0
 ·refine (hM.cell 9).trans ?_
  show ((((Y.L.ml.set (Y.ro + 1) _).set 7 _).set (Y.L.qo + 1) _).set 6 _)[9]? = _
  rw [List.getElem?_set_ne (by omega), List.getElem?_set_ne (by omega), List.getElem?_set_ne (by omega), List.getElem?_set_ne (by omega)]

structure MEnv (Y : SL) (s : ByteArray) (rank : Nat → Nat) (top k : Nat) (c0 r : List Int) : Prop where
 mo : MOk Y
 hs : Plain s
 sz : s.size < 10000000000
 tb : Table Y.L.pg Y.L.np
 ok : (envAt Y.L.pg s rank top).Ok
 le : top ≤ k
 an : Env.Anch (envAt Y.L.pg s rank top) 1
 res : Env.res (envAt Y.L.pg s rank top) 1 0 c0 = some r
 np : 1 < Y.L.np
 bd : Y.L.np * (s.size + 2) < 8900000000000
 m9 : Y.L.ml[9]? = some (.string s)
 pre : Y.w0.cell? ⟨Y.L.R, 6, none⟩ = some (.string ByteArray.empty)
 start : Y.w0.cell? ⟨Y.L.PR, 1, none⟩ = some (.int .i64 1)

theorem MEnv.fl (h : MEnv Y s rank top k c0 r) (f : Int) : MEnv (Y.fl f) s rank top k c0 r :=
 ⟨h.mo.fl f, h.hs, h.sz, h.tb, h.ok, h.le, h.an, h.res, h.np, h.bd, h.m9, h.pre, h.start⟩
theorem MEnv.swap (h : MEnv Y s rank top k c0 r) : MEnv Y.swap s rank top k c0 r :=
 ⟨h.mo.swap, h.hs, h.sz, h.tb, h.ok, h.le, h.an, h.res, h.np, h.bd, h.m9, h.pre, h.start⟩

def RoundGo (Y : SL) (s : ByteArray) (rank : Nat → Nat) (top : Nat) (c0 r : List Int) (p : Nat) (Q : Exit → Act → World → Prop) : Prop :=
 ∀ a' w' f' q' m' mcap' pool' pb', f' = flagOf (runeAt s p) (runeAt s (p + 1)) → p < s.size → MF Y.L.M Y.ro Y.L.qo (p + 1) (runeAt s (p + 1)) (runeAt s (p + 2)) (wdAt s (p + 1)) (wdAt s (p + 2)) Y.L.F a' →
  StepMem ((Y.fl f').swap) mcap' m' q' pool' [] pb' 0 [] (Y.L.np * (p + 1)) w' → Env.Head (envAt Y.L.pg s rank top) c0 r (p + 1) (q'.map fg) m' mcap' → Q .normal a' w'
def RoundEnd (Y : SL) (s : ByteArray) (r : List Int) (Q : Exit → Act → World → Prop) : Prop :=
 ∀ a' w' f' pos r' r1' wd wd1 q' pool' pb' mcap', MF Y.L.M Y.L.qo Y.ro pos r' r1' wd wd1 Y.L.F a' → StepMem (Y.fl f') mcap' (some r) q' pool' [] pb' 0 [] (Y.L.np * (s.size + 2)) w' → Q (.exit 2) a' w'

theorem StepMem.more {PB' : Nat} (h : StepMem Y mcap m q pool [] pb 0 [] PB w) (hB : PB ≤ PB') : StepMem Y mcap m q pool [] pb 0 [] PB' w := by
 refine h.fresh ?_
 have := h.bound
 simp at this
 omega

theorem mt_mid {a : Act} (me : MEnv Y s rank top k c0 r) (hp : p ≤ s.size) (hm : StepMem Y mcap m q pool [] pb 0 [] (Y.L.np * p) w) (hf : Env.Full (envAt Y.L.pg s rank top) r p (q.map fg) m)
  (hgo : RoundGo Y s rank top c0 r p Q) (hfin : RoundEnd Y s r Q) (hfr : MF Y.L.M Y.L.qo Y.ro p (runeAt s p) (runeAt s (p + 1)) (wdAt s p) (wdAt s (p + 1)) Y.L.F a) : Ent mtMid Q a w := by
 have mc := hm.mcells me.mo
 have hsz := me.sz
 have hF := hm.st.st.flag
 have hnp := me.np
 have hPB : Y.L.np * p + Y.L.np < 8900000000000 := by
  have h1 : Y.L.np * p + Y.L.np ≤ Y.L.np * (s.size + 2) := by
   rw [← Nat.mul_succ]; exact Nat.mul_le_mul_left _ (by omega)
  have := me.bd
  omega
 have hnc : 2 ≤ Y.L.nc ∧ Y.L.nc < 100 := me.mo.so.ok.nc
 obtain ⟨f', hf'⟩ : ∃ f', f' = flagOf (runeAt s p) (runeAt s (p + 1)) := ⟨_, rfl⟩
 have h8 : ∀ (R : List Env.Entry × Option (List Int)) (PB' : Nat) (w1 : World), Stepped ((Y.fl f').swap) PB' R w1 → w1.cell? ⟨Y.L.M, 8, none⟩ = some (.slice (some ⟨Y.L.MC, 0, none⟩) Y.L.nc Y.L.nc) := by
  rintro R PB' w1 ⟨mcap', m', n', pool', pb', h1, _⟩
  exact (h1.mcells (me.fl f').swap.mo).c8
 have h9 : ∀ (R : List Env.Entry × Option (List Int)) (PB' : Nat) (w1 : World), Stepped ((Y.fl f').swap) PB' R w1 → w1.cell? ⟨Y.L.M, 9, none⟩ = some (.string s) := by
  rintro R PB' w1 ⟨mcap', m', n', pool', pb', h1, _⟩
  exact (h1.mcells (me.fl f').swap.mo).c9.trans me.m9
 by_cases hlt : p < s.size
 ·have se : SEnv ((Y.fl f').swap) (envAt Y.L.pg s rank top) p k := senv_at (Y := (Y.fl f').swap) me.hs me.tb me.ok me.le hlt hf'
  have hst := mid_call (f := f') (r := runeAt s p) (p2 := p + 1) me.mo hm hf.waits se hPB (by omega) rfl (by show p + (if p < s.size then 1 else 0) = p + 1; rw [if_pos hlt])
  have hw1 := wdAt_in hlt
  have hnext : ∀ a' w1, MF Y.L.M Y.ro Y.L.qo (p + 1) (runeAt s (p + 1)) (runeAt s (p + 2)) (wdAt s (p + 1)) (wdAt s (p + 2)) Y.L.F a' → Stepped ((Y.fl f').swap) (Y.L.np * p + Y.L.np) (Env.stepF (envAt Y.L.pg s rank top) p k (q.map fg) [] m) w1 → Q .normal a' w1 := by
   rintro a' w1 hfr' ⟨mcap', m', n', pool', pb', h1, h2⟩
   refine hgo a' w1 f' n' m' mcap' pool' pb' hf' hlt hfr' (by rw [Nat.mul_succ]; exact h1) ?_
   have := hf.next (c0 := c0) me.an me.le hlt h2 mcap'
   have e : p + ((envAt Y.L.pg s rank top).st p).2 = p + 1 := by show p + (if p < s.size then 1 else 0) = p + 1; rw [if_pos hlt]
   rw [e] at this
   exact this
  by_cases hl2 : p + 1 < s.size
  ·have hr1 : runeAt s (p + 1) ≠ -1 := by
    have := (rune_bd s me.hs (p + 1)).2.2
    omega
   have hw2 := wdAt_in hl2
   refine mt_next Y.L.M Y.L.qo Y.ro p (runeAt s p) (runeAt s (p + 1)) (wdAt s p) (wdAt s (p + 1)) Y.L.F w Q (p + 1) (by rw [hw1]; rfl) (by omega) _ (hF.cell 0) (hF.free 0) hF.lt _ (by rw [← hf']; exact hst) Y.L.MC Y.L.nc (fun w1 g => h8 _ _ w1 g) (by omega) (by omega) hr1 (p + 2) (by rw [hw2]; omega) (by omega) (runeAt s (p + 2)) (wdAt s (p + 2)) (fun w1 g => step_at Y.L.M (p + 2) s me.hs (by omega) w1 (h9 _ _ w1 g)) hnext hfr
  ·have hr1 : runeAt s (p + 1) = -1 := runeAt_out hl2
   refine mt_last Y.L.M Y.L.qo Y.ro p (runeAt s p) (runeAt s (p + 1)) (wdAt s p) (wdAt s (p + 1)) Y.L.F w Q (p + 1) (by rw [hw1]; rfl) (by omega) _ (hF.cell 0) (hF.free 0) hF.lt _ (by rw [← hf']; exact hst) Y.L.MC Y.L.nc (fun w1 g => h8 _ _ w1 g) (by omega) (by omega) hr1 ?_ hfr
   intro a' w1 hfr' g
   refine hnext a' w1 ?_ g
   rw [runeAt_out (s := s) (p := p + 2) (by omega), wdAt_out (s := s) (p := p + 2) (by omega)]
   rw [hr1, wdAt_out hl2] at hfr'
   rw [hr1, wdAt_out hl2]
   exact hfr'
 ·have hpe : p = s.size := by omega
  have hff : f' = flagOf (-1) (-1) := by rw [hf', runeAt_out hlt, runeAt_out (by omega)]
  have se : SEnv ((Y.fl f').swap) (envAll Y.L.pg s rank top) p k := senv_all (Y := (Y.fl f').swap) me.tb me.ok me.le hff
  have hww : Env.Waits (envAll Y.L.pg s rank top) (q.map fg) := hf.waits
  have hst := mid_call (E := envAll Y.L.pg s rank top) (f := f') (r := runeAt s p) (p2 := p) me.mo hm hww se hPB (by omega) rfl (by show p + (if p < s.size then 1 else 0) = p; rw [if_neg hlt]; rfl)
  have hR : Env.stepF (envAll Y.L.pg s rank top) p k (q.map fg) [] m = Env.stepF (envAt Y.L.pg s rank top) p k (q.map fg) [] m :=
   Env.stepF_same (E := envAt Y.L.pg s rank top) (E' := envAll Y.L.pg s rank top) p k rfl rfl rfl (fun pc => me.ok.ends p pc (by show s.size ≤ p; omega)) _ _ _
  rw [hR] at hst
  refine mt_stop Y.L.M Y.L.qo Y.ro p (runeAt s p) (runeAt s (p + 1)) (wdAt s p) (wdAt s (p + 1)) Y.L.F w Q p (by rw [wdAt_out hlt]; omega) (by omega) _ (hF.cell 0) (hF.free 0) hF.lt _ (by rw [← hf']; exact hst) (wdAt_out hlt) ?_ hfr
  rintro a' w1 hfr' ⟨mcap', m', n', pool', pb', h1, h2⟩
  obtain ⟨e1, e2⟩ := hf.stop me.an me.le (by show s.size ≤ p; omega) h2
  have e1' : n' = [] := by simpa using e1
  subst e1'
  subst e2
  have hb := h1.bound
  simp at hb
  have h3 := (h1.swap (PB' := Y.L.np * (s.size + 2)) (me.fl f').swap.mo (by
   have : Y.L.np * p + Y.L.np ≤ Y.L.np * (s.size + 2) := by rw [← Nat.mul_succ]; exact Nat.mul_le_mul_left _ (by omega)
   simp
   omega))
  exact hfin a' w1 f' p _ _ _ _ [] pool' pb' mcap' hfr' h3

theorem mt_round {a : Act} (me : MEnv Y s rank top k c0 r) (hfl : Y.L.fl = flagOf (runeAhead s p) (runeAt s p)) (hp : p ≤ s.size) (hm : StepMem Y mcap m q pool [] pb 0 [] (Y.L.np * p) w) (hh : Env.Head (envAt Y.L.pg s rank top) c0 r p (q.map fg) m mcap)
  (hgo : RoundGo Y s rank top c0 r p Q) (hfin : RoundEnd Y s r Q) (hfr : MF Y.L.M Y.L.qo Y.ro p (runeAt s p) (runeAt s (p + 1)) (wdAt s p) (wdAt s (p + 1)) Y.L.F a) : mtIn.wp Tryz.prog Q a w := by
 have mc := hm.mcells me.mo
 have hsz := me.sz
 have hnp := me.np
 have hnq : Y.L.nq ≤ 100000 := me.mo.so.ok.nq
 have hnpq : Y.L.np ≤ Y.L.nq := me.mo.so.ok.np.1
 have hnc : 2 ≤ Y.L.nc ∧ Y.L.nc < 100 := me.mo.so.ok.nc
 have hlen0 := st_len hm.st.st (by show 0 < Y.L.np; omega)
 have hlen : q.length < Y.L.np := hlen0
 have hC := hm.st.st.cap
 have hP := hm.st.st.prog
 have hCge := hm.st.ge Y.L.MC (by simp [AL.tot, SL.at, AL.pl, AL.mlo])
 have hMC : Y.L.N ≤ Y.L.MC := hCge.1
 have hMne : Y.L.M ≠ Y.L.MC := by
  have h1 := hm.st.apart
  intro e
  have h2 : (Y.at pb 0 m.isSome).tot q pool [] [] ([Y.Dr, Y.Sr] ++ Y.X) = Y.L.M :: (([Y.L.S, Y.L.D, Y.L.F, Y.L.MC] ++ pbBlk pb ++ aBlks q ++ pBlks pool ++ aBlks [] ++ pBlks []) ++ ([Y.Dr, Y.Sr] ++ Y.X)) := rfl
  rw [h2, List.nodup_cons] at h1
  apply h1.1
  rw [e]
  simp
 have hPM : Y.L.PR ≠ Y.L.MC := by have := hP.lt.2.1; have h2 : Y.L.PR < Y.L.N := this; omega
 have hle : Y.L.N ≤ w.heap.size := hP.le
 have hPl : Y.L.PR < w.heap.size := by have := hP.lt.2.1; have h2 : Y.L.PR < Y.L.N := this; omega
 have hRl : Y.L.R < w.heap.size := by have := hP.lt.1; have h2 : Y.L.R < Y.L.N := this; omega
 have cs : w.cell? ⟨Y.L.PR, 1, none⟩ = some (.int .i64 1) := (hm.below.cell (p := ⟨Y.L.PR, 1, none⟩) hP.lt.2.1).trans me.start
 have cp : w.cell? ⟨Y.L.R, 6, none⟩ = some (.string ByteArray.empty) := (hm.below.cell (p := ⟨Y.L.R, 6, none⟩) hP.lt.1).trans me.pre
 have hcl : 0 < mcap.length := by have h1 : mcap.length = Y.L.nc := hm.st.st.clen; omega
 obtain ⟨x0, hx0⟩ : ∃ x0, (intCells mcap)[0]? = some x0 := ⟨_, List.getElem?_eq_getElem (by simpa [intCells] using hcl)⟩
 have cx : w.cell? ⟨Y.L.MC, 0, none⟩ = some x0 := (hC.cell 0).trans hx0
 have fc : w.frozen? ⟨Y.L.MC, 0, none⟩ = false := hC.free 0
 have ae := aenv_at (Y := Y) me.hs me.ok hp hfl
 have hr1 : (envAt Y.L.pg s rank top).rank 1 < k := Nat.lt_of_lt_of_le (me.ok.rank_lt 1) me.le
 cases m with
 | some c =>
  have hf := hh.on
  by_cases hq : q = []
  ·have hp0 : p ≠ 0 := by
    intro e
    have := (hh.zero e).2.1
    cases this
   subst hq
   have e := hh.dead hp0 rfl
   simp at e
   subst e
   refine mt_dead Y.L.M Y.L.qo Y.ro p _ _ _ _ Y.L.F w Q Y.L.R Y.L.D Y.L.nq mc.cq (by omega) (by omega) ?_ hfr
   intro a' hfr'
   refine hfin a' w Y.L.fl p _ _ _ _ [] pool pb mcap hfr' ?_
   exact hm.more (Nat.mul_le_mul_left _ (by omega))
  ·have hq0 : 0 < q.length := List.length_pos_iff.2 hq
   refine mt_on Y.L.M Y.L.qo Y.ro p _ _ _ _ Y.L.F w Q Y.L.R Y.L.PR Y.L.D q.length Y.L.nq Y.L.MC Y.L.nc mc.c0 mc.cq (by omega) mc.c8 hnc hq0 mc.c7 ?_ hfr
   intro a' hfr'
   exact mt_mid me hp hm hf hgo hfin hfr'
 | none =>
  have hf := hh.add me.an me.le me.res
  have hadd : ∀ x : Ext (w.setCell ⟨Y.L.MC, 0, none⟩ (.int .i64 p)), _ := fun x => add_round me.mo ae hr1 me.np hm x
  have hend : ∀ a' w1, MF Y.L.M Y.L.qo Y.ro p (runeAt s p) (runeAt s (p + 1)) (wdAt s p) (wdAt s (p + 1)) Y.L.F a' →
    (∃ q1 pool1, StepMem Y (mcap.set 0 p) none q1 pool1 [] pb 0 [] (Y.L.np * p) w1 ∧ q1.map fg = Env.addF (envAt Y.L.pg s rank top) p k (q.map fg) 1 (mcap.set 0 p) ∧ pool1.length ≤ pool.length) → Ent mtMid Q a' w1 := by
   rintro a' w1 hfr' ⟨q1, pool1, h1, h2, h3⟩
   refine mt_mid me hp h1 ?_ hgo hfin hfr'
   rw [h2]
   exact hf
  by_cases hq : q = []
  ·by_cases hp0 : p = 0
   ·have h0 : q.length = 0 := by rw [hq]; rfl
    subst hp0
    exact mt_first Y.L.M Y.L.qo Y.ro 0 _ _ _ _ Y.L.F w Q Y.L.R Y.L.PR Y.L.D q.length Y.L.nq Y.L.MC Y.L.nc mc.c0 mc.cq (by omega) mc.c8 hnc h0 rfl cp mc.c7 mc.c1 cs mc.lM hPl hRl hPM hMne x0 cx fc hC.lt _ hadd hend hfr
   ·subst hq
    have e := hh.dead hp0 rfl
    cases e
  ·have hq0 : 0 < q.length := List.length_pos_iff.2 hq
   exact mt_add Y.L.M Y.L.qo Y.ro p _ _ _ _ Y.L.F w Q Y.L.R Y.L.PR Y.L.D q.length Y.L.nq Y.L.MC Y.L.nc mc.c0 mc.cq (by omega) mc.c8 hnc hq0 mc.c7 mc.c1 cs mc.lM hPl hRl hPM hMne x0 cx fc hC.lt _ hadd hend hfr

end
end Go.Proofs.YtkbmigfkclnlaaaGreatDoor
namespace Go.Proofs.YtkbmigfkclnlaaaGreatDoor
open Go.RowKit Go.Rx

section
variable {Y0 : SL} {s : ByteArray} {rank : Nat → Nat} {top k : Nat} {c0 r : List Int} {mcap : List Int} {pb : Option (Nat × Nat)} {w : World} {Q : Exit → Act → World → Prop}

def MTop (Y0 : SL) (s : ByteArray) (rank : Nat → Nat) (top : Nat) (c0 r : List Int) (i : Nat) (a : Act) (w : World) : Prop :=
 ∃ Y f p q m mcap pool pb, (Y = Y0.fl f ∨ Y = Y0.swap.fl f) ∧ f = flagOf (runeAhead s p) (runeAt s p) ∧ p ≤ s.size ∧ i = s.size + 1 - p ∧
  MF Y.L.M Y.L.qo Y.ro p (runeAt s p) (runeAt s (p + 1)) (wdAt s p) (wdAt s (p + 1)) Y.L.F a ∧ StepMem Y mcap m q pool [] pb 0 [] (Y.L.np * p) w ∧ Env.Head (envAt Y.L.pg s rank top) c0 r p (q.map fg) m mcap

def LoopEnd (Y0 : SL) (s : ByteArray) (r : List Int) (Q : Exit → Act → World → Prop) : Prop :=
 ∀ Y f a' w' pos r' r1' wd wd1 q' pool' pb' mcap', (Y = Y0.fl f ∨ Y = Y0.swap.fl f) → MF Y.L.M Y.L.qo Y.ro pos r' r1' wd wd1 Y.L.F a' → StepMem Y mcap' (some r) q' pool' [] pb' 0 [] (Y.L.np * (s.size + 2)) w' → Q (.exit 2) a' w'

theorem match_loop {a : Act} (me : MEnv Y0 s rank top k c0 r) (hm : StepMem Y0 mcap none [] [] [] pb 0 [] 0 w) (hc : mcap.set 0 ((0 : Nat) : Int) = c0) (hfl : Y0.L.fl = flagOf (-1) (runeAt s 0))
  (hfin : LoopEnd Y0 s r Q) (hf : MF Y0.L.M Y0.L.qo Y0.ro 0 (runeAt s 0) (runeAt s 1) (wdAt s 0) (wdAt s 1) Y0.L.F a) : (Code.loop mtBody).wp Tryz.prog Q a w := by
 refine wp_loop_nat (MTop Y0 s rank top c0 r) (s.size + 1 - 0) ⟨Y0, Y0.L.fl, 0, [], none, mcap, [], pb, .inl rfl, hfl, Nat.zero_le _, rfl, hf, by rw [Nat.mul_zero]; exact hm, ?_⟩ ?_
 ·exact ⟨(fun _ _ h => by cases h), Env.metAll_nil _, fun _ => ⟨rfl, rfl, hc⟩, fun h => absurd rfl h⟩
 ·rintro i a w ⟨Y, f, p, q, m, mcap, pool, pb, hY, hff, hp, rfl, hfr, hm, hh⟩
  have me' : MEnv Y s rank top k c0 r := by
   rcases hY with rfl | rfl
   ·exact me.fl f
   ·exact me.swap.fl f
  have hfl' : Y.L.fl = flagOf (runeAhead s p) (runeAt s p) := by
   rw [← hff]
   rcases hY with rfl | rfl <;> rfl
  rw [mt_in]
  refine wp_block ?_
  refine mt_round me' hfl' hp hm hh ?_ ?_ hfr
  ·intro a' w' f' q' m' mcap' pool' pb' hf' hlt hfr' hm' hh'
   refine ⟨s.size + 1 - (p + 1), by omega, (Y.fl f').swap, f', p + 1, q', m', mcap', pool', pb', ?_, ?_, by omega, rfl, hfr', hm', hh'⟩
   ·rcases hY with rfl | rfl
    ·exact .inr rfl
    ·exact .inl rfl
   ·rw [hf']
    have : runeAhead s (p + 1) = runeAt s p := by unfold runeAhead; rw [if_neg (by omega)]; rfl
    rw [this]
  ·intro a' w' f' pos r' r1' wd wd1 q' pool' pb' mcap' hfr' hm'
   refine hfin (Y.fl f') f' a' w' pos r' r1' wd wd1 q' pool' pb' mcap' ?_ hfr' hm'
   rcases hY with rfl | rfl
   ·exact .inl rfl
   ·exact .inr rfl

end
end Go.Proofs.YtkbmigfkclnlaaaGreatDoor
namespace Go.Proofs.YtkbmigfkclnlaaaGreatDoor
open Go.RowKit Go.Rx
attribute [local go_sem] mstep_method mstep_func
attribute [local go_sem] Ext.cell Ext.frozen Ext.lt Ext.lt_add Ext.cell2 Ext.frozen2

def newCells (R PR S0 D0 S1 D1 MC nc nq : Nat) (s : ByteArray) : List Value :=
 [.pointer (some ⟨R, 0, none⟩), .pointer (some ⟨PR, 0, none⟩), .slice (some ⟨S0, 0, none⟩) nq nq, .slice (some ⟨D0, 0, none⟩) 0 nq, .slice (some ⟨S1, 0, none⟩) nq nq, .slice (some ⟨D1, 0, none⟩) 0 nq, .slice none 0 0, .bool false, .slice (some ⟨MC, 0, none⟩) nc nc, .string s]

structure MatchIn (N : Nat) (w0 w : World) (M R PR I MC S0 D0 S1 D1 np nc nq : Nat) (pg : Nat → Inst) (s : ByteArray) : Prop where
 m : Blk w M (newCells R PR S0 D0 S1 D1 MC nc nq s) 170
 mc : Blk w MC (List.replicate nc (.int .i64 0)) 3
 s0 : ∃ sp : List Nat, Blk w S0 (wordCells sp) 86 ∧ sp.length = nq
 d0 : ∃ dl, Blk w D0 dl 239 ∧ dl.length = nq * 2
 s1 : ∃ sp : List Nat, Blk w S1 (wordCells sp) 86 ∧ sp.length = nq
 d1 : ∃ dl, Blk w D1 dl 239 ∧ dl.length = nq * 2
 prog : ProgAt w N R PR I np pg
 below : Below N w0 w
 apart : [M, S0, D0, MC, D1, S1].Nodup
 ge : ∀ b, b ∈ [M, S0, D0, MC, D1, S1] → N ≤ b ∧ b < w.heap.size

def mlY (N M R PR I MC S0 D0 S1 D1 np nc nq F : Nat) (pg : Nat → Inst) (s : ByteArray) (w0 : World) : SL :=
 { L := { N := N, R := R, PR := PR, I := I, np := np, pg := pg, M := M, qo := 2, S := S0, D := D0, nq := nq, nc := nc, F := F, CB := MC, pb := none, MC := MC, ml := newCells R PR S0 D0 S1 D1 MC nc nq s, tM := 170, tS := 86, tD := 239, fl := flagOf (-1) (runeAt s 0) }
   ro := 4, Dr := D1, Sr := S1, tDr := 239, tSr := 86, X := [], w0 := w0 }

def after2 : Code → Option Code
 | .seq (.block 2 _) d => some d
 | .seq a d => (after2 d).or (after2 a)
 | .block _ c => after2 c
 | _ => none
noncomputable def mtTail : Code := (Tryz.f87.body.bind after2).getD .skip

set_option maxRecDepth 1000000 in
set_option maxHeartbeats 4000000 in
theorem mt_tail {a : Act} (M rq xq pos : Nat) (r r1 : Int) (wd wd1 F : Nat) (w : World) (Q : Exit → Act → World → Prop) (G : World → Prop) (hclear : Calls Tryz.prog 110 #[.pointer (some ⟨M, 0, none⟩), .pointer (some ⟨M, xq, none⟩)] w fun e w2 => e = .returned (.tuple #[]) ∧ G w2)
  (h7 : ∀ w2, G w2 → w2.cell? ⟨M, 7, none⟩ = some (.bool true)) (hgo : ∀ a w2, a.tmps.size = 226 → a.defers = [] → a.tmps.getD 6 undef = .bool true → G w2 → Q .ret a w2) (hfr : MF M rq xq pos r r1 wd wd1 F a) : mtTail.wp Tryz.prog Q a w := by
 cases hfr
 conv => arg 2; whnf
 have HC := Lib.hid hclear
 have HG := Lib.hid hgo
 clear hclear hgo
 go_wp2_with (first | (go_at_call 110; (with_reducible refine HC.out.mono ?_); rintro e w2 ⟨rfl, hg⟩; have d7 := h7 _ hg))
 exact HG.out _ _ rfl rfl rfl hg

theorem mlY_mem {N : Nat} {w0 w : World} {M R PR I MC S0 D0 S1 D1 np nc nq F : Nat} {pg : Nat → Inst} {s : ByteArray} (m : Blk w M (newCells R PR S0 D0 S1 D1 MC nc nq s) 170) (mc : Blk w MC (List.replicate nc (.int .i64 (-1))) 3)
  (s0 : ∃ sp : List Nat, Blk w S0 (wordCells sp) 86 ∧ sp.length = nq) (d0 : ∃ dl, Blk w D0 dl 239 ∧ dl.length = nq * 2) (s1 : ∃ sp : List Nat, Blk w S1 (wordCells sp) 86 ∧ sp.length = nq) (d1 : ∃ dl, Blk w D1 dl 239 ∧ dl.length = nq * 2)
  (prog : ProgAt w N R PR I np pg) (below : Below N w0 w) (apart : [M, S0, D0, MC, D1, S1].Nodup) (ge : ∀ b, b ∈ [M, S0, D0, MC, D1, S1] → N ≤ b ∧ b < F) (hF : Blk w F [.int .u64 (flagOf (-1) (runeAt s 0))] 217) :
  StepMem (mlY N M R PR I MC S0 D0 S1 D1 np nc nq F pg s w0) (List.replicate nc (-1)) none [] [] [] none 0 [] 0 w := by
 have hFl := hF.lt
 have hFn : ∀ b, b ∈ [M, S0, D0, MC, D1, S1] → b ≠ F := fun b hb => by have := (ge b hb).2; omega
 have hall : [M, S0, D0, F, MC, D1, S1].Nodup := by
  have e : ∀ x, List.count x [M, S0, D0, F, MC, D1, S1] ≤ List.count x (F :: [M, S0, D0, MC, D1, S1]) := by
   intro x
   simp only [List.count_cons, List.count_nil]
   omega
  refine nodup_of_count (List.nodup_cons.2 ⟨fun hm => hFn F hm rfl, apart⟩) e
 have hge : ∀ b, b ∈ [M, S0, D0, F, MC, D1, S1] → N ≤ b ∧ b < w.heap.size := by
  intro b hb
  have hc : b = F ∨ b ∈ [M, S0, D0, MC, D1, S1] := by
   simp only [List.mem_cons, List.not_mem_nil, or_false] at hb ⊢
   rcases hb with h | h | h | h | h | h | h <;> simp [h]
  rcases hc with rfl | hc
  ·have := (ge M (by simp)).1
   have := (ge M (by simp)).2
   omega
  ·have := ge b hc
   omega
 obtain ⟨sp0, a1, a2⟩ := s0
 obtain ⟨dl0, b1, b2⟩ := d0
 obtain ⟨sp1, c1, c2⟩ := s1
 obtain ⟨dl1, e1, e2⟩ := d1
 have hic : intCells (List.replicate nc (-1)) = List.replicate nc (Value.int .i64 (-1)) := by simp [intCells]
 refine ⟨⟨{ prog := prog
            mblk := m
            dense := ⟨dl0, b1, by show 0 * 2 + dl0.length = nq * 2; omega⟩
            sparse := ⟨sp0, a1, a2, fun i e hi => by simp at hi⟩
            pcs := ⟨List.nodup_nil, fun e he => by cases he⟩
            thr := fun pc t ht => by cases ht
            pthr := fun i t ht => by simp at ht
            prow := World.ownsRow_nil _ _ _ _
            pcap := by simp
            hthr := fun T hT => by cases hT
            cap := by rw [hic]; exact mc
            clen := by rw [List.length_replicate]; rfl
            flag := hF
            apart := List.Nodup.sublist (l₁ := [M, S0, D0, F, MC]) (List.sublist_append_left _ [D1, S1]) hall
            ge := fun b hb => hge b (List.mem_append_left [D1, S1] (show b ∈ [M, S0, D0, F, MC] from hb)) }, (fun pc t ht => by cases ht), (fun pc t ht => by cases ht), (fun t ht => by cases ht), hall, hge⟩, (fun c hc => by cases hc), ⟨⟨dl1, e1, e2, fun i e hi => by simp at hi⟩, sp1, c1, c2⟩, Nat.le_refl _, below⟩

def Closed (Y : SL) (r : List Int) (w : World) : Prop :=
 Below Y.L.N Y.w0 w ∧ Blk w Y.L.MC (intCells r) 3 ∧ ∃ ml v0 v1, Blk w Y.L.M ml Y.L.tM ∧ ml[0]? = some v0 ∧ ml[1]? = some v1 ∧ ml[7]? = some (.bool true) ∧ ml[8]? = some (.slice (some ⟨Y.L.MC, 0, none⟩) Y.L.nc Y.L.nc) ∧ ml[9]? = Y.L.ml[9]?

theorem mt_close {Y : SL} {mcap r : List Int} {q : List CE} {pool : List Th} {pb : Option (Nat × Nat)} {PB : Nat} {w : World} (mo : MOk Y) (hm : StepMem Y mcap (some r) q pool [] pb 0 [] PB w) (hnq : 0 < Y.L.nq) :
  Calls Tryz.prog 110 #[.pointer (some ⟨Y.L.M, 0, none⟩), .pointer (some ⟨Y.L.M, Y.ro, none⟩)] w fun e w2 => e = .returned (.tuple #[]) ∧ Closed Y r w2 := by
 have st := hm.st.st
 have aok := SL.aok mo.so pb 0 true Y.L.MC
 obtain ⟨a1, a2, a3, a4, a5⟩ := AL.mc aok q.length pool.length
 obtain ⟨b1, b2, b3, b4, b5⟩ := SL.cells mo.so pb 0 true q.length pool.length
 obtain ⟨dl, d1, d2, d3⟩ := hm.rows.d
 have hro := mo.so.ro
 have hqo : Y.L.qo = 2 ∨ Y.L.qo = 4 := mo.so.ok.qo
 have hne := mo.so.ne
 have hnq2 : Y.L.nq ≤ 100000 := mo.so.ok.nq
 have hap := hm.st.apart
 have e0 : (Y.at pb 0 (some r).isSome).tot q pool [] [] ([Y.Dr, Y.Sr] ++ Y.X) = [Y.L.M] ++ ([Y.L.S, Y.L.D, Y.L.F] ++ ([Y.L.MC] ++ (pbBlk pb ++ (aBlks q ++ pBlks pool ++ aBlks [] ++ pBlks [] ++ ([Y.Dr] ++ ([Y.Sr] ++ Y.X)))))) := by
  simp only [AL.tot, SL.at, AL.pl, AL.mlo, List.append_assoc, List.cons_append, List.nil_append]
 have hge := hm.st.ge
 rw [e0] at hap hge
 have hMD : Y.L.M ≠ Y.Dr := by
  intro e
  rw [List.singleton_append, List.nodup_cons] at hap
  apply hap.1
  rw [e]
  simp
 have hMMC : Y.L.M ≠ Y.L.MC := by
  intro e
  rw [List.singleton_append, List.nodup_cons] at hap
  apply hap.1
  rw [e]
  simp
 have hpb : ∀ b, (poolVal pb pool.length).ownBlock = some b → b ≠ Y.L.M ∧ b ≠ Y.Dr ∧ b ≠ Y.L.MC ∧ Y.L.N ≤ b := by
  intro b hb
  have hbm : b ∈ pbBlk pb := by
   cases pb with
   | none => simp [poolVal, Value.ownBlock] at hb
   | some p => simp [poolVal, Value.ownBlock] at hb; simp [pbBlk, hb]
  refine ⟨?_, ?_, ?_, ?_⟩
  ·intro e
   rw [List.singleton_append, List.nodup_cons] at hap
   apply hap.1
   rw [← e]
   simp [hbm]
  ·intro e
   have h1 := (List.nodup_append.1 hap).2.1
   have h2 := (List.nodup_append.1 h1).2.1
   have h3 := (List.nodup_append.1 h2).2.1
   have h4 := (List.nodup_append.1 h3).2.2
   exact h4 b hbm Y.Dr (by simp) e
  ·intro e
   have h1 := (List.nodup_append.1 hap).2.1
   have h2 := (List.nodup_append.1 h1).2.1
   exact (List.nodup_append.1 h2).2.2 Y.L.MC (by simp) b (by simp [hbm]) e.symm
  ·exact (hge b (by simp [hbm])).1
 have hNM : Y.L.N ≤ Y.L.M := (hge Y.L.M (by simp)).1
 refine (clear_any w Y.L.M Y.ro Y.Dr 0 Y.L.nq _ Y.L.tM st.mblk b5 hro b1 hnq (by omega) dl Y.tDr d1 [] rfl (fun i e hi => by simp at hi) Y.L.N pool.length _ _ b3 st.prow st.pcap st.prog.le hMD (fun b hb => ⟨(hpb b hb).1, (hpb b hb).2.1⟩)).mono ?_
 rintro e w2 ⟨rfl, pv2, k2, c1, c2, X, c3, c4⟩
 refine ⟨rfl, hm.below.trans (c3.below st.prog.le ?_), ?_, _, .pointer (some ⟨Y.L.R, 0, none⟩), .pointer (some ⟨Y.L.PR, 0, none⟩), c1, ?_, ?_, ?_, ?_, ?_⟩
 ·intro b hb
  rcases c4 b hb with h | h
  ·rw [h]; exact hNM
  ·exact (hpb b h).2.2.2
 ·have hr : mcap = r := hm.cap r rfl
  rw [← hr]
  refine st.cap.chg c3 ?_
  intro hb
  rcases c4 _ hb with h | h
  ·exact hMMC h.symm
  ·exact (hpb _ h).2.2.1 rfl
 ·rw [List.getElem?_set_ne (by omega), List.getElem?_set_ne (by omega)]
  show ((((Y.L.ml.set (Y.ro + 1) _).set 7 _).set (Y.L.qo + 1) _).set 6 _)[0]? = _
  rw [List.getElem?_set_ne (by omega), List.getElem?_set_ne (by omega), List.getElem?_set_ne (by omega), List.getElem?_set_ne (by omega)]
  exact mo.m0
 ·rw [List.getElem?_set_ne (by omega), List.getElem?_set_ne (by omega)]
  exact a1
 ·rw [List.getElem?_set_ne (by omega), List.getElem?_set_ne (by omega)]
  exact b2
 ·rw [List.getElem?_set_ne (by omega), List.getElem?_set_ne (by omega)]
  exact b4
 ·rw [List.getElem?_set_ne (by omega), List.getElem?_set_ne (by omega)]
  show ((((Y.L.ml.set (Y.ro + 1) _).set 7 _).set (Y.L.qo + 1) _).set 6 _)[9]? = _
  rw [List.getElem?_set_ne (by omega), List.getElem?_set_ne (by omega), List.getElem?_set_ne (by omega), List.getElem?_set_ne (by omega)]

end Go.Proofs.YtkbmigfkclnlaaaGreatDoor
namespace Go.Proofs.YtkbmigfkclnlaaaGreatDoor
open Go.RowKit Go.Rx
attribute [local go_sem] mstep_method mstep_func
attribute [local go_sem] Ext.cell Ext.frozen Ext.lt Ext.lt_add Ext.cell2 Ext.frozen2

set_option maxRecDepth 1000000 in
set_option maxHeartbeats 4000000 in
theorem match_new {N : Nat} {w0 w : World} {M R PR I MC S0 D0 S1 D1 np nc nq : Nat} {pg : Nat → Inst} {s : ByteArray} {rank : Nat → Nat} {top : Nat} {r : List Int} (h : MatchIn N w0 w M R PR I MC S0 D0 S1 D1 np nc nq pg s) (hnc : 2 ≤ nc ∧ nc < 100)
  (hcond : w.cell? ⟨R, 13, none⟩ = some (.int .u8 4)) (hs : Plain s) (hsz : s.size < 10000000000)
  (hme : ∀ F, MEnv (mlY N M R PR I MC S0 D0 S1 D1 np nc nq F pg s w0) s rank top top (cap0 nc) r) :
  Calls Tryz.prog 87 #[.pointer (some ⟨M, 0, none⟩), .iface 237 (.pointer (some ⟨M, 9, none⟩)), .int .i64 0] w fun e w' => e = .returned (.bool true) ∧
   Below N w0 w' ∧ Blk w' MC (intCells r) 3 ∧ ∃ ml v0 v1, Blk w' M ml 170 ∧ ml[0]? = some v0 ∧ ml[1]? = some v1 ∧ ml[8]? = some (.slice (some ⟨MC, 0, none⟩) nc nc) ∧ ml[9]? = some (.string s) := by
 have q0 : w.cell? ⟨M, 0, none⟩ = some (.pointer (some ⟨R, 0, none⟩)) := (h.m.cell 0).trans rfl
 have q7 : w.cell? ⟨M, 7, none⟩ = some (.bool false) := (h.m.cell 7).trans rfl
 have q8 : w.cell? ⟨M, 8, none⟩ = some (.slice (some ⟨MC, 0, none⟩) nc nc) := (h.m.cell 8).trans rfl
 have f7 := h.m.free 7
 have hMl := h.m.lt
 have hRl : R < w.heap.size := by have := h.prog.lt.1; have := h.prog.le; omega
 have hRM : R ≠ M := by have := h.prog.lt.1; have := (h.ge M (by simp)).1; omega
 have H := Lib.hid h
 clear h
 go_enter Tryz.func87, Tryz.ntmps87
 go_wp2_with fail
 obtain ⟨w1, hw1⟩ : ∃ w1, w1 = w.setCell ⟨M, 7, none⟩ (.bool false) := ⟨_, rfl⟩
 rw [← hw1]
 have bM1 : Blk w1 M (newCells R PR S0 D0 S1 D1 MC nc nq s) 170 := by
  have := H.out.m.set 7 (.bool false)
  rw [← hw1] at this
  exact this
 have c01 : Chg [M] w w1 := by rw [hw1]; exact Chg.set _ _ _ _
 have hap := H.out.apart
 have hMMC : M ≠ MC := by
  rw [List.nodup_cons] at hap
  intro e
  apply hap.1
  rw [e]
  simp
 have bC1 : Blk w1 MC (List.replicate nc (.int .i64 0)) 3 := H.out.mc.chg c01 (by simpa using Ne.symm hMMC)
 have hF0 : FillIs M MC nc (newCells R PR S0 D0 S1 D1 MC nc nq s) 170 w1 0 w1 := ⟨bM1, by simpa using bC1, (Chg.refl w1).mono (fun _ h => by cases h)⟩
 have HF := Lib.hid hF0
 have HC1 := Lib.hid c01
 have HAP := Lib.hid hap
 clear hw1 bM1 bC1 hF0 c01 hap
 go_loopw [34] (fun t wr => ∃ k : Nat, k ≤ nc ∧ t = .int .i64 k ∧ FillIs M MC nc (newCells R PR S0 D0 S1 D1 MC nc nq s) 170 w1 k wr) (fun t _ => nc - (intOf t).toNat)
 case atStart => exact ⟨0, Nat.zero_le _, rfl, HF.out⟩
 case round =>
  obtain ⟨k, hk, rfl, hfi⟩ := hrel
  have hfB := hfi.1
  have hfC := hfi.2.1
  have c8 : wr.cell? ⟨M, 8, none⟩ = some (.slice (some ⟨MC, 0, none⟩) nc nc) := (hfB.cell 8).trans rfl
  have hCl := hfC.lt
  have hBl' := hfB.lt
  by_cases hlt : k < nc
  ·have hlt' : (k : Int) < (nc : Int) := by omega
   have d1 : wr.cell? ⟨MC, k, none⟩ = some (.int .i64 0) := by
    rw [hfC.cell, List.getElem?_append_right (by simp), List.length_replicate, Nat.sub_self, List.getElem?_replicate, if_pos (by omega)]
   have d2 := hfC.free k
   have HN := Lib.hid (hfi.next hlt hMMC)
   clear hfi hfB hfC
   go_wp2_with fail
   exact ⟨⟨k + 1, by omega, by simp, HN.out⟩, by simp [intOf]; omega⟩
  ·have hkn : k = nc := by omega
   subst hkn
   have hlt' : ¬ ((k : Int) < (k : Int)) := by omega
   have HF2 := Lib.hid hfi
   clear hfi hfB hfC
   go_wp2_with fail
   refine wp_region_ext rfl (by kernel_rfl) ?_
   repeat (quiet_step (fail))
   refine wpQuiet_nil ?_
   rintro w' ⟨z, rfl⟩
   have hz9 : z.now.cell? ⟨M, 9, none⟩ = some (.string s) := by rw [z.cell M 9 hBl']; exact (HF2.out.1.cell 9).trans rfl
   have st0 : Calls Tryz.prog 174 #[.pointer (some ⟨M, 9, none⟩), .int .i64 0] z.now fun e w' => e = .returned (.tuple #[.int .i32 (runeAt s 0), .int .i64 (wdAt s 0 : Nat)]) ∧ w' = z.now := step_at M 0 s hs (by omega) z.now hz9
   have st1 : Calls Tryz.prog 174 #[.pointer (some ⟨M, 9, none⟩), .int .i64 1] z.now fun e w' => e = .returned (.tuple #[.int .i32 (runeAt s 1), .int .i64 (wdAt s 1 : Nat)]) ∧ w' = z.now := step_at M 1 s hs (by omega) z.now hz9
   have hcase : (runeAt s 0 = -1 ∧ wdAt s 0 = 0 ∧ runeAt s 1 = -1 ∧ wdAt s 1 = 0) ∨ (runeAt s 0 ≠ -1 ∧ wdAt s 0 = 1) := by
    by_cases h0 : 0 < s.size
    ·right
     refine ⟨?_, wdAt_in h0⟩
     have := (rune_bd s hs 0).2.2
     omega
    ·left
     exact ⟨runeAt_out h0, wdAt_out h0, runeAt_out (by omega), wdAt_out (by omega)⟩
   have SA := Lib.hid st0
   have SB := Lib.hid st1
   have HME := Lib.hid hme
   clear st0 st1 hme
   rcases hcase with ⟨hr, hw, hr1, hw1⟩ | ⟨hr, hw⟩
   ·have T0 := SA.out
    rw [hr, hw] at T0
    have T1 : Calls Tryz.prog 174 #[.pointer (some ⟨M, 9, none⟩), .int .i64 0] z.now fun e w' => e = .returned (.tuple #[.int .i32 (-1), .int .i64 0]) ∧ w' = z.now := T0
    have T0' := Lib.hid T1
    clear T0 T1
    go_wp2_with (first | (go_at_call 174; (with_reducible refine T0'.out.mono ?_); rintro e w2 ⟨rfl, rfl⟩) | (go_at_call 107; (with_reducible refine (flag_new _ _ _).mono ?_); rintro e w' ⟨rfl, rfl⟩))
    rename_i hK
    obtain ⟨F, hF⟩ : ∃ F, z.now.heap.size = F := ⟨_, rfl⟩
    rw [hF]
    rw [show flagOf (-1) (-1) = flagOf (-1) (runeAt s 0) by rw [hr]]
    have cz : Chg [] wr (z.now.alloc (Obj.cells #[Value.int .u64 (flagOf (-1) (runeAt s 0))] 217)) := ((Chg.of_below z.below).trans (Chg.alloc _ _)).mono (fun _ h _ => by cases h)
    have call : Chg [M, MC] w (z.now.alloc (Obj.cells #[Value.int .u64 (flagOf (-1) (runeAt s 0))] 217)) := ((HC1.out.trans HF2.out.2.2).trans cz).mono (fun _ h _ => by simpa using h)
    have hwF : w.heap.size ≤ F := by
     have h1 := (HC1.out.trans HF2.out.2.2).size
     have h2 := z.le
     omega
    have hap := HAP.out
    have hn : S0 ∉ [M, MC] ∧ D0 ∉ [M, MC] ∧ S1 ∉ [M, MC] ∧ D1 ∉ [M, MC] := by
     simp only [List.nodup_cons, List.mem_cons, List.not_mem_nil, or_false, not_or] at hap ⊢
     omega
    obtain ⟨sp0, a1, a2⟩ := H.out.s0
    obtain ⟨dl0, b1, b2⟩ := H.out.d0
    obtain ⟨sp1, c1, c2⟩ := H.out.s1
    obtain ⟨dl1, e1, e2⟩ := H.out.d1
    have hgeM := H.out.ge
    have bF : Blk (z.now.alloc (Obj.cells #[Value.int .u64 (flagOf (-1) (runeAt s 0))] 217)) F [.int .u64 (flagOf (-1) (runeAt s 0))] 217 := by rw [← hF]; exact Blk.new _ _ _
    have sm := mlY_mem (F := F) (HF2.out.1.chg cz (fun h => by cases h)) ((fill_end HF2.out).chg cz (fun h => by cases h)) ⟨sp0, a1.chg call hn.1, a2⟩ ⟨dl0, b1.chg call hn.2.1, b2⟩ ⟨sp1, c1.chg call hn.2.2.1, c2⟩ ⟨dl1, e1.chg call hn.2.2.2, e2⟩
     (H.out.prog.chg call (fun b hb => (hgeM b (by simp at hb ⊢; omega)).1)) (H.out.below.trans (call.below H.out.prog.le (fun b hb => (hgeM b (by simp at hb ⊢; omega)).1))) hap (fun b hb => ⟨(hgeM b hb).1, by have := (hgeM b hb).2; omega⟩) bF
    have hme := HME.out F
    have hnq0 : 0 < nq := by
     have h1 : np ≤ nq := hme.mo.so.ok.np.1
     have h2 : 1 < np := hme.np
     omega
    clear hap hn sp0 a1 a2 dl0 b1 b2 sp1 c1 c2 dl1 e1 e2 hgeM bF call cz
    show (Code.loop mtBody).wp Tryz.prog _ _ _
    refine match_loop hme sm rfl rfl ?_ (by show MF M 2 4 0 (runeAt s 0) (runeAt s 1) (wdAt s 0) (wdAt s 1) F _; rw [hr, hr1, hw, hw1]; constructor)
    intro Y f a' w' pos r' r1' wd wd1 q' pool' pb' mcap' hY hfr hm
    have mo' : MOk Y := by
     rcases hY with rfl | rfl
     ·exact hme.mo.fl f
     ·exact hme.mo.swap.fl f
    have eM : Y.L.M = M ∧ Y.L.MC = MC ∧ Y.L.N = N ∧ Y.w0 = w0 ∧ Y.L.tM = 170 ∧ Y.L.nc = k ∧ Y.L.nq = nq ∧ Y.L.ml[9]? = some (.string s) := by
     rcases hY with rfl | rfl <;> exact ⟨rfl, rfl, rfl, rfl, rfl, rfl, rfl, rfl⟩
    obtain ⟨g1, g2, g3, g4, g5, g6, g7, g8⟩ := eM
    have hcl := mt_close mo' hm (by omega)
    refine hK _ _ (mt_tail Y.L.M Y.L.qo Y.ro pos r' r1' wd wd1 Y.L.F w' _ (Closed Y r) hcl (fun w2 hc => ?_) ?_ hfr)
    ·obtain ⟨_, _, ml, v0, v1, hb, _, _, h7, _⟩ := hc
     exact (hb.cell 7).trans h7
    ·intro a2 w2 s1 s2 s3 hc
     obtain ⟨t, df⟩ := a2
     dsimp only at s1 s2 s3
     subst s2
     obtain ⟨h1, h2, ml, v0, v1, hb, i0, i1, i7, i8, i9⟩ := hc
     rw [g3, g4] at h1
     rw [g2] at h2
     rw [g1, g5] at hb
     rw [g2, g6] at i8
     rw [g8] at i9
     refine bodyPost_ret (v := .bool true) ?_ rfl ⟨rfl, h1, h2, ml, v0, v1, hb, i0, i1, i8, i9⟩
     have d3' : t[6]?.getD undef = .bool true := by rw [← Array.getD_eq_getD_getElem?]; exact s3
     simp [results, Tryz.results87, go_sem, d3']
   ·go_wp2_with (first | (go_at_call 174; (with_reducible refine SA.out.mono ?_); rintro e w2 ⟨rfl, rfl⟩) | (go_at_call 174; (with_reducible refine SB.out.mono ?_); rintro e w2 ⟨rfl, rfl⟩) | (go_at_call 107; (with_reducible refine (flag_new _ _ _).mono ?_); rintro e w' ⟨rfl, rfl⟩))
    rename_i hK
    obtain ⟨F, hF⟩ : ∃ F, z.now.heap.size = F := ⟨_, rfl⟩
    rw [hF]
    have cz : Chg [] wr (z.now.alloc (Obj.cells #[Value.int .u64 (flagOf (-1) (runeAt s 0))] 217)) := ((Chg.of_below z.below).trans (Chg.alloc _ _)).mono (fun _ h _ => by cases h)
    have call : Chg [M, MC] w (z.now.alloc (Obj.cells #[Value.int .u64 (flagOf (-1) (runeAt s 0))] 217)) := ((HC1.out.trans HF2.out.2.2).trans cz).mono (fun _ h _ => by simpa using h)
    have hwF : w.heap.size ≤ F := by
     have h1 := (HC1.out.trans HF2.out.2.2).size
     have h2 := z.le
     omega
    have hap := HAP.out
    have hn : S0 ∉ [M, MC] ∧ D0 ∉ [M, MC] ∧ S1 ∉ [M, MC] ∧ D1 ∉ [M, MC] := by
     simp only [List.nodup_cons, List.mem_cons, List.not_mem_nil, or_false, not_or] at hap ⊢
     omega
    obtain ⟨sp0, a1, a2⟩ := H.out.s0
    obtain ⟨dl0, b1, b2⟩ := H.out.d0
    obtain ⟨sp1, c1, c2⟩ := H.out.s1
    obtain ⟨dl1, e1, e2⟩ := H.out.d1
    have hgeM := H.out.ge
    have bF : Blk (z.now.alloc (Obj.cells #[Value.int .u64 (flagOf (-1) (runeAt s 0))] 217)) F [.int .u64 (flagOf (-1) (runeAt s 0))] 217 := by rw [← hF]; exact Blk.new _ _ _
    have sm := mlY_mem (F := F) (HF2.out.1.chg cz (fun h => by cases h)) ((fill_end HF2.out).chg cz (fun h => by cases h)) ⟨sp0, a1.chg call hn.1, a2⟩ ⟨dl0, b1.chg call hn.2.1, b2⟩ ⟨sp1, c1.chg call hn.2.2.1, c2⟩ ⟨dl1, e1.chg call hn.2.2.2, e2⟩
     (H.out.prog.chg call (fun b hb => (hgeM b (by simp at hb ⊢; omega)).1)) (H.out.below.trans (call.below H.out.prog.le (fun b hb => (hgeM b (by simp at hb ⊢; omega)).1))) hap (fun b hb => ⟨(hgeM b hb).1, by have := (hgeM b hb).2; omega⟩) bF
    have hme := HME.out F
    have hnq0 : 0 < nq := by
     have h1 : np ≤ nq := hme.mo.so.ok.np.1
     have h2 : 1 < np := hme.np
     omega
    clear hap hn sp0 a1 a2 dl0 b1 b2 sp1 c1 c2 dl1 e1 e2 hgeM bF call cz
    show (Code.loop mtBody).wp Tryz.prog _ _ _
    refine match_loop hme sm rfl rfl ?_ (by show MF M 2 4 0 (runeAt s 0) (runeAt s 1) (wdAt s 0) (wdAt s 1) F _; rw [hw]; constructor)
    intro Y f a' w' pos r' r1' wd wd1 q' pool' pb' mcap' hY hfr hm
    have mo' : MOk Y := by
     rcases hY with rfl | rfl
     ·exact hme.mo.fl f
     ·exact hme.mo.swap.fl f
    have eM : Y.L.M = M ∧ Y.L.MC = MC ∧ Y.L.N = N ∧ Y.w0 = w0 ∧ Y.L.tM = 170 ∧ Y.L.nc = k ∧ Y.L.nq = nq ∧ Y.L.ml[9]? = some (.string s) := by
     rcases hY with rfl | rfl <;> exact ⟨rfl, rfl, rfl, rfl, rfl, rfl, rfl, rfl⟩
    obtain ⟨g1, g2, g3, g4, g5, g6, g7, g8⟩ := eM
    have hcl := mt_close mo' hm (by omega)
    refine hK _ _ (mt_tail Y.L.M Y.L.qo Y.ro pos r' r1' wd wd1 Y.L.F w' _ (Closed Y r) hcl (fun w2 hc => ?_) ?_ hfr)
    ·obtain ⟨_, _, ml, v0, v1, hb, _, _, h7, _⟩ := hc
     exact (hb.cell 7).trans h7
    ·intro a2 w2 s1 s2 s3 hc
     obtain ⟨t, df⟩ := a2
     dsimp only at s1 s2 s3
     subst s2
     obtain ⟨h1, h2, ml, v0, v1, hb, i0, i1, i7, i8, i9⟩ := hc
     rw [g3, g4] at h1
     rw [g2] at h2
     rw [g1, g5] at hb
     rw [g2, g6] at i8
     rw [g8] at i9
     refine bodyPost_ret (v := .bool true) ?_ rfl ⟨rfl, h1, h2, ml, v0, v1, hb, i0, i1, i8, i9⟩
     have d3' : t[6]?.getD undef = .bool true := by rw [← Array.getD_eq_getD_getElem?]; exact s3
     simp [results, Tryz.results87, go_sem, d3']

end Go.Proofs.YtkbmigfkclnlaaaGreatDoor
