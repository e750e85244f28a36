/-
FnRefNormalSelf: the regular expressions, the digest and the reference, part 3 of 26.
-/
import Derived.Below
import Derived.WalkKit
import Derived.Laws.Entries
import Derived.OwnWalk
import Derived.Laws.MakeOwn
import Derived.Test.YtkbmigfkclnlaaaGreatDoorV01
import Derived.Laws.BitsAllLaws
import Derived.Test.YtkbmigfkclnlaaaGreatDoorV02
import Derived.Test.YtkbmigfkclnlaaaGreatDoorProg
import Derived.IntWalk
import Derived.Outline
import Derived.BigQuiet
import Derived.WalkSpells
import Derived.Laws.BitsLemmas
import Derived.WalkSmall
import Derived.Deep.AppendLies
import Derived.KernelRfl
import Derived.Lib.Hide
set_option linter.all false
namespace Go.Proofs.YtkbmigfkclnlaaaGreatDoor
open Go Go.RowKit

def Blk (w : World) (b : Nat) (l : List Value) (t : TypeId) : Prop := w.heap[b]? = some (.cells l.toArray t (0, 0))

structure Chg (S : List Nat) (w w' : World) : Prop where
 os : w'.os = w.os
 tape : w'.tape = w.tape
 output : w'.output = w.output
 size : w.heap.size ≤ w'.heap.size
 block : ∀ k, k < w.heap.size → k ∉ S → w'.heap[k]? = w.heap[k]?

theorem Blk.lt {w : World} {b : Nat} {l : List Value} {t : TypeId} (h : Blk w b l t) : b < w.heap.size := (Array.getElem?_eq_some_iff.1 h).1

theorem Blk.cell {w : World} {b : Nat} {l : List Value} {t : TypeId} (h : Blk w b l t) (i : Nat) : w.cell? ⟨b, i, none⟩ = l[i]? := by
 unfold Blk at h
 simp [World.cell?, h]

theorem Blk.free {w : World} {b : Nat} {l : List Value} {t : TypeId} (h : Blk w b l t) (i : Nat) : w.frozen? ⟨b, i, none⟩ = false := by
 unfold Blk at h
 simp [World.frozen?, h]

theorem Blk.chg {w w' : World} {b : Nat} {l : List Value} {t : TypeId} {S : List Nat} (h : Blk w b l t) (c : Chg S w w') (hb : b ∉ S) : Blk w' b l t := (c.block b h.lt hb).trans h

theorem Blk.new (w : World) (l : List Value) (t : TypeId) : Blk (w.alloc (.cells l.toArray t)) w.heap.size l t := by
 show (w.heap.push _)[w.heap.size]? = _
 simp

theorem Blk.alloc {w : World} {b : Nat} {l : List Value} {t : TypeId} (h : Blk w b l t) (o : Obj) : Blk (w.alloc o) b l t := by
 have := h.lt
 show (w.heap.push o)[b]? = _
 rw [Array.getElem?_push, if_neg (by omega)]
 exact h

theorem Blk.drew {w : World} {b : Nat} {l : List Value} {t : TypeId} (h : Blk w b l t) : Blk w.drew b l t := h

theorem Blk.set {w : World} {b : Nat} {l : List Value} {t : TypeId} (h : Blk w b l t) (i : Nat) (v : Value) : Blk (w.setCell ⟨b, i, none⟩ v) b (l.set i v) t := by
 have hlt := h.lt
 unfold Blk at h ⊢
 simp only [World.setCell, Array.getElem?_modify, h, if_true]
 simp

theorem Blk.set_other {w : World} {b c : Nat} {l : List Value} {t : TypeId} (h : Blk w b l t) (hne : b ≠ c) (i : Nat) (v : Value) : Blk (w.setCell ⟨c, i, none⟩ v) b l t := by
 unfold Blk at h ⊢
 rw [Below.heap_setCell _ _ _ _ hne]
 exact h

theorem Chg.refl (w : World) : Chg [] w w := ⟨rfl, rfl, rfl, Nat.le_refl _, fun _ _ _ => rfl⟩
theorem Chg.mono {S T : List Nat} {w w' : World} (h : Chg S w w') (hs : ∀ b, b ∈ S → b < w.heap.size → b ∈ T) : Chg T w w' :=
 ⟨h.os, h.tape, h.output, h.size, fun k hk hn => h.block k hk (fun hm => hn (hs k hm hk))⟩
theorem Chg.trans {S T : List Nat} {w w1 w2 : World} (h : Chg S w w1) (g : Chg T w1 w2) : Chg (S ++ T) w w2 :=
 ⟨g.os.trans h.os, g.tape.trans h.tape, g.output.trans h.output, Nat.le_trans h.size g.size, fun k hk hn => by
  rw [List.mem_append] at hn
  rw [g.block k (Nat.lt_of_lt_of_le hk h.size) (fun hm => hn (.inr hm))]
  exact h.block k hk (fun hm => hn (.inl hm))⟩
theorem Chg.alloc (w : World) (o : Obj) : Chg [] w (w.alloc o) := ⟨rfl, rfl, rfl, by simp, fun k hk _ => Below.heap_alloc _ _ _ hk⟩
theorem Chg.drew (w : World) : Chg [] w w.drew := ⟨rfl, rfl, rfl, Nat.le_refl _, fun _ _ _ => rfl⟩
theorem Chg.set (w : World) (b i : Nat) (v : Value) : Chg [b] w (w.setCell ⟨b, i, none⟩ v) :=
 ⟨rfl, rfl, rfl, by simp [World.setCell], fun k _ hn => Below.heap_setCell _ _ _ _ (by simpa using hn)⟩
theorem Chg.below {S : List Nat} {w w' : World} (h : Chg S w w') {B : Nat} (hB : B ≤ w.heap.size) (hS : ∀ b, b ∈ S → B ≤ b) : Below B w w' :=
 ⟨h.os, h.tape, h.output, h.size, fun k hk => h.block k (by omega) (fun hm => by have := hS k hm; omega)⟩
theorem Chg.of_below {w w' : World} (h : Below w.heap.size w w') : Chg [] w w' := ⟨h.os, h.tape, h.output, h.size, fun k hk _ => h.block k hk⟩
theorem Chg.of_grown {w w' : World} {b : Nat} (h : w.grownBy w' (some b)) : Chg [b] w w' :=
 ⟨h.os, h.tape, h.output, h.size, fun k hk hn => h.block k hk (fun e => hn (by simpa using e))⟩

end Go.Proofs.YtkbmigfkclnlaaaGreatDoor
namespace Go.Proofs.YtkbmigfkclnlaaaGreatDoor
open Go Go.RowKit

theorem made_one (z : Value) (n : Nat) : (madeCells #[z] n).toList = List.replicate n z := by
 apply List.ext_getElem
 ·simp [madeCells]
 ·intro i h1 h2
  simp [madeCells, Nat.mod_one]

theorem make_blk {P : Program} (w : World) {ops : Array Oper} {rest : List Oper} {o : Oper} {a : Act} {Q : Exit → Act → World → Prop} (hgd : o.guard = none) (l c : Operand) (t e : TypeId) (hop : o.op = Op.makeSlice t l c)
  (z : Value) (size bytes : Nat) (ht : P.underlying t = some (.slice e)) (hinfo : (P.info? e).map (fun i => (i.zero, i.size, i.bytes)) = some (some z, size, bytes)) (kl kc : IntKind) (L C : Nat) (hl : a.eval l = .int kl L) (hc : a.eval c = .int kc C)
  (hLC : L ≤ C) (hb : bytes * C ≤ 281474976710656) (hC : C ≤ 281474976710656) (H : Nat) (hH : w.heap.size = H)
  (h : ∀ w', Blk w' H (madeCells z.cells (C * size)).toList e → Chg [] w w' → w'.heap.size = H + 1 → wpList P ops Q rest (a.put o.dst (.slice (some ⟨H, 0, none⟩) L C)) w') : wpList P ops Q (o :: rest) a w := by
 obtain ⟨i, hi, hz0, hz1, hz2⟩ := info_parts hinfo
 refine wpList_plain hgd fun K hK => ?_
 have hbi : ((i.bytes : Int) * (C : Int)) ≤ 281474976710656 := by
  rw [hz2, ← Int.natCast_mul]
  exact Int.ofNat_le.2 hb
 have hrun := run_make (P := P) w t e i z ht hi hz0 kl kc (L : Int) (C : Int) (by omega) (by omega) hbi (by omega)
 rw [hz1, hH] at hrun
 simp only [Int.toNat_natCast] at hrun
 unfold Oper.wp
 simp [execOp, hop, hl, hc, hrun, Result.andThen]
 refine hK _ _ (h _ ?_ (Chg.alloc w _) (by simp [hH]))
 have := Blk.new w (madeCells z.cells (C * size)).toList e
 rw [hH] at this
 simpa using this

end Go.Proofs.YtkbmigfkclnlaaaGreatDoor
namespace Go.Rx

structure VisRep (np en nw : Nat) (words : List Nat) (vis : Nat → Nat → Bool) : Prop where
 len : np * (en + 1) ≤ nw * 32
 used : nw ≤ words.length
 small : ∀ (i : Nat) (x : Nat), words[i]? = some x → x < 4294967296
 bit : ∀ pc pos, pc < np → pos ≤ en → vis pc pos = (words.getD ((pc * (en + 1) + pos) / 32) 0).testBit ((pc * (en + 1) + pos) % 32)

theorem place_lt {np en pc pos : Nat} (hpc : pc < np) (hpos : pos ≤ en) : pc * (en + 1) + pos < np * (en + 1) := by
 have : (pc + 1) * (en + 1) ≤ np * (en + 1) := Nat.mul_le_mul_right _ (by omega)
 rw [Nat.add_mul] at this
 omega

theorem place_inj {en pc pos a b : Nat} (hpos : pos ≤ en) (hb : b ≤ en) (h : a * (en + 1) + b = pc * (en + 1) + pos) : a = pc ∧ b = pos := by
 have h1 : (a * (en + 1) + b) / (en + 1) = a := by rw [Nat.mul_comm, Nat.mul_add_div (by omega), Nat.div_eq_of_lt (by omega)]; omega
 have h2 : (pc * (en + 1) + pos) / (en + 1) = pc := by rw [Nat.mul_comm, Nat.mul_add_div (by omega), Nat.div_eq_of_lt (by omega)]; omega
 have : a = pc := by rw [← h1, ← h2, h]
 subst this
 exact ⟨rfl, by omega⟩

theorem VisRep.at {np en nw : Nat} {words : List Nat} {vis : Nat → Nat → Bool} (r : VisRep np en nw words vis) {pc pos : Nat} (hpc : pc < np) (hpos : pos ≤ en) :
  (pc * (en + 1) + pos) / 32 < nw ∧ ∃ x, words[(pc * (en + 1) + pos) / 32]? = some x ∧ x < 4294967296 ∧ vis pc pos = x.testBit ((pc * (en + 1) + pos) % 32) := by
 have h1 := place_lt hpc hpos
 have h2 := r.len
 have h3 := r.used
 have hq : (pc * (en + 1) + pos) / 32 < nw := by omega
 have hx : words[(pc * (en + 1) + pos) / 32]? = some (words[(pc * (en + 1) + pos) / 32]'(by omega)) := List.getElem?_eq_getElem _
 refine ⟨hq, _, hx, r.small _ _ hx, ?_⟩
 rw [r.bit pc pos hpc hpos, List.getD_eq_getElem?_getD, hx]
 rfl

theorem mark_same {v : Nat → Nat → Bool} {pc pos : Nat} (h : v pc pos = true) : Env.mark v pc pos = v := by
 funext a b
 unfold Env.mark
 split
 ·rename_i e; obtain ⟨rfl, rfl⟩ := e; exact h.symm
 ·rfl

theorem VisRep.marked {np en nw : Nat} {words : List Nat} {vis : Nat → Nat → Bool} (r : VisRep np en nw words vis) {pc pos x : Nat} (hpc : pc < np) (hpos : pos ≤ en)
  (hx : words[(pc * (en + 1) + pos) / 32]? = some x) : VisRep np en nw (words.set ((pc * (en + 1) + pos) / 32) (x ||| 2 ^ ((pc * (en + 1) + pos) % 32))) (Env.mark vis pc pos) := by
 obtain ⟨hq, x', hx', hlt, hb⟩ := r.at hpc hpos
 rw [hx] at hx'
 cases hx'
 have hql : (pc * (en + 1) + pos) / 32 < words.length := Nat.lt_of_lt_of_le hq r.used
 refine ⟨r.len, by simpa using r.used, fun i y hy => ?_, fun a b ha hb => ?_⟩
 ·rw [List.getElem?_set] at hy
  split at hy
  ·cases hy
   have : 2 ^ ((pc * (en + 1) + pos) % 32) < 2 ^ 32 := Nat.pow_lt_pow_right (by omega) (by omega)
   exact Nat.or_lt_two_pow (n := 32) hlt this
  ·exact r.small i y hy
 ·unfold Env.mark
  rw [List.getD_eq_getElem?_getD, List.getElem?_set]
  by_cases hab : a = pc ∧ b = pos
  ·obtain ⟨rfl, rfl⟩ := hab
   rw [if_pos ⟨rfl, rfl⟩, if_pos rfl, if_pos hql]
   simp [Nat.testBit_or, Nat.testBit_two_pow_self]
  ·rw [if_neg hab]
   have hne : a * (en + 1) + b ≠ pc * (en + 1) + pos := fun h => hab (place_inj hpos hb h)
   rw [r.bit a b ha hb, List.getD_eq_getElem?_getD]
   by_cases hqq : (pc * (en + 1) + pos) / 32 = (a * (en + 1) + b) / 32
   ·rw [if_pos hqq, if_pos hql]
    rw [← hqq, hx]
    simp only [Option.getD_some, Nat.testBit_or]
    rw [Nat.testBit_two_pow_of_ne (by omega), Bool.or_false]
   ·rw [if_neg hqq]

theorem VisRep.zero (np en nw k : Nat) (h : np * (en + 1) ≤ nw * 32) (hk : nw ≤ k) : VisRep np en nw (List.replicate k 0) (fun _ _ => false) :=
 ⟨h, by simpa using hk, fun i x hx => by rw [List.getElem?_replicate] at hx; split at hx <;> cases hx; omega, fun pc pos _ _ => by
  rw [List.getD_eq_getElem?_getD, List.getElem?_replicate]
  split <;> simp⟩


theorem and_bit (x j : Nat) (hx : x < 4294967296) (hj : j < 32) : (bits .and .u32 (x : Int) (2 ^ j % 4294967296) != 0) = x.testBit j := by
 have hp : 2 ^ j < 4294967296 := Nat.pow_lt_pow_right (a := 2) (n := 32) (by omega) hj
 have e : ((2 : Int) ^ j % 4294967296) = ((2 ^ j : Nat) : Int) := by
  have e1 : ((2 ^ j : Nat) : Int) = (2 : Int) ^ j := by rw [Int.natCast_pow]; rfl
  rw [← e1]
  exact Int.emod_eq_of_lt (Int.natCast_nonneg _) (Int.ofNat_lt.2 hp)
 rw [e, u32_and_nat x (2 ^ j) hx hp]
 cases hb : x.testBit j with
 | false =>
  have : x &&& 2 ^ j = 0 := by
   apply Nat.eq_of_testBit_eq
   intro i
   rw [Nat.testBit_and, Nat.zero_testBit]
   by_cases hi : j = i
   ·subst hi; rw [hb]; rfl
   ·rw [Nat.testBit_two_pow_of_ne hi, Bool.and_false]
  rw [this]; rfl
 | true =>
  have : x &&& 2 ^ j ≠ 0 := by
   intro h0
   have h1 : (x &&& 2 ^ j).testBit j = true := by rw [Nat.testBit_and, hb, Nat.testBit_two_pow_self]; rfl
   rw [h0, Nat.zero_testBit] at h1
   cases h1
  simp only [bne_iff_ne, ne_eq]
  omega

theorem or_bit (x j : Nat) (hx : x < 4294967296) (hj : j < 32) : bits .or .u32 (x : Int) (2 ^ j % 4294967296) = ((x ||| 2 ^ j : Nat) : Int) := by
 have hp : 2 ^ j < 4294967296 := Nat.pow_lt_pow_right (a := 2) (n := 32) (by omega) hj
 have e : ((2 : Int) ^ j % 4294967296) = ((2 ^ j : Nat) : Int) := by
  have e1 : ((2 ^ j : Nat) : Int) = (2 : Int) ^ j := by rw [Int.natCast_pow]; rfl
  rw [← e1]
  exact Int.emod_eq_of_lt (Int.natCast_nonneg _) (Int.ofNat_lt.2 hp)
 rw [e, u32_or_nat x (2 ^ j) hx hp]

theorem and31 (k : Nat) (hk : k < 18446744073709551616) : bits .and .u64 (k : Int) 31 = ((k % 32 : Nat) : Int) := by
 have := u64_and_nat k 31 hk (by omega)
 rw [show ((31 : Nat) : Int) = 31 from rfl] at this
 rw [this, Nat.and_two_pow_sub_one_eq_mod k 5]

end Go.Rx
namespace Go.Proofs.YtkbmigfkclnlaaaGreatDoor
open Go.RowKit Go.Rx

def RunesAt (w : World) (N : Nat) (v : Value) (l : List Int) : Prop :=
 (v = .slice none 0 0 ∧ l = []) ∨ ∃ rb cr, v = .slice (some ⟨rb, 0, none⟩) l.length cr ∧ rb < N ∧ ∀ i x, l[i]? = some x → w.cell? ⟨rb, i, none⟩ = some (.int .i32 x)

structure ProgAt (w : World) (N R PR I np : Nat) (pg : Nat → Inst) : Prop where
 le : N ≤ w.heap.size
 lt : R < N ∧ PR < N ∧ I < N
 prog : w.cell? ⟨R, 1, none⟩ = some (.pointer (some ⟨PR, 0, none⟩))
 longest : w.cell? ⟨R, 15, none⟩ = some (.bool false)
 insts : ∃ ci, w.cell? ⟨PR, 0, none⟩ = some (.slice (some ⟨I, 0, none⟩) np ci)
 op : ∀ pc, 0 < pc → pc < np → w.cell? ⟨I, pc * 4, none⟩ = some (.int .u8 (pg pc).op)
 out : ∀ pc, 0 < pc → pc < np → w.cell? ⟨I, pc * 4 + 1, none⟩ = some (.int .u32 (pg pc).out)
 arg : ∀ pc, 0 < pc → pc < np → w.cell? ⟨I, pc * 4 + 2, none⟩ = some (.int .u32 (pg pc).arg)
 rune : ∀ pc, 0 < pc → pc < np → ∃ v, w.cell? ⟨I, pc * 4 + 3, none⟩ = some v ∧ RunesAt w N v (pg pc).rune

theorem ProgAt.below {w w' : World} {N R PR I np : Nat} {pg : Nat → Inst} (h : ProgAt w N R PR I np pg) (x : Below N w w') : ProgAt w' N R PR I np pg := by
 have hc : ∀ b o, b < N → w'.cell? ⟨b, o, none⟩ = w.cell? ⟨b, o, none⟩ := fun b o h1 => x.cell (p := ⟨b, o, none⟩) h1
 exact
 { le := Nat.le_trans h.le x.size
   lt := h.lt
   prog := (hc _ _ h.lt.1).trans h.prog
   longest := (hc _ _ h.lt.1).trans h.longest
   insts := by obtain ⟨ci, hh⟩ := h.insts; exact ⟨ci, (hc _ _ h.lt.2.1).trans hh⟩
   op := fun pc h0 hp => (hc _ _ h.lt.2.2).trans (h.op pc h0 hp)
   out := fun pc h0 hp => (hc _ _ h.lt.2.2).trans (h.out pc h0 hp)
   arg := fun pc h0 hp => (hc _ _ h.lt.2.2).trans (h.arg pc h0 hp)
   rune := fun pc h0 hp => by
     obtain ⟨v, hv, hr⟩ := h.rune pc h0 hp
     refine ⟨v, (hc _ _ h.lt.2.2).trans hv, ?_⟩
     rcases hr with hr | ⟨rb, cr, hvv, hlt, hcc⟩
     · exact .inl hr
     · exact .inr ⟨rb, cr, hvv, hlt, fun i y hy => (hc _ _ hlt).trans (hcc i y hy)⟩ }

theorem ProgAt.chg {w w' : World} {N R PR I np : Nat} {pg : Nat → Inst} {S : List Nat} (h : ProgAt w N R PR I np pg) (c : Chg S w w') (hS : ∀ b, b ∈ S → N ≤ b) : ProgAt w' N R PR I np pg :=
 h.below (c.below h.le hS)

theorem ownsRow_chg {w w' : World} {base : Nat} {e : TypeId} {size g n cap : Nat} {xs : List Value} {S : List Nat} (h : w.ownsRow base e size (.slice (some ⟨g, 0, none⟩) n cap) n xs) (c : Chg S w w') (hg : g ∉ S) :
  w'.ownsRow base e size (.slice (some ⟨g, 0, none⟩) n cap) n xs := by
 obtain ⟨h1, h2⟩ := h
 refine ⟨h1, ?_⟩
 rcases h2 with h2 | ⟨g', cap', cur, hv, hb, hh, hr⟩
 ·exact .inl h2
 ·cases hv
  refine .inr ⟨g, cap, cur, rfl, hb, ?_, hr⟩
  rw [c.block g (Array.getElem?_eq_some_iff.1 hh).1 hg, hh]

end Go.Proofs.YtkbmigfkclnlaaaGreatDoor
namespace Go.Proofs.YtkbmigfkclnlaaaGreatDoor
open Go.RowKit Go.Rx

def wordCells (l : List Nat) : List Value := l.map fun (x : Nat) => Value.int .u32 (x : Int)

theorem visit {np en nw : Nat} {words : List Nat} {vis : Nat → Nat → Bool} (r : VisRep np en nw words vis) (hnp : np ≤ 500) (hen : en ≤ 262144) (hnw : nw ≤ 8192)
  (B V cp : Nat) (bl : List Value) (tB tV : TypeId) (w : World) (hB : Blk w B bl tB) (b0 : bl[0]? = some (.int .i64 en)) (b4 : bl[4]? = some (.slice (some ⟨V, 0, none⟩) nw cp))
  (hV : Blk w V (wordCells words) tV) (pc pos : Nat) (hpc : pc < np) (hpos : pos ≤ en) :
  Calls Tryz.prog 120 #[.pointer (some ⟨B, 0, none⟩), .int .u32 pc, .int .i64 pos] w fun e w' => e = .returned (.bool (!vis pc pos)) ∧
   ∃ words', VisRep np en nw words' (Env.mark vis pc pos) ∧ Blk w' V (wordCells words') tV ∧ Chg [V] w w' := by
 obtain ⟨hq, x, hx, hxl, hvis⟩ := r.at hpc hpos
 have hk := place_lt hpc hpos
 have hl := r.len
 have h0 : w.cell? ⟨B, 0, none⟩ = some (.int .i64 en) := (hB.cell 0).trans b0
 have h4 : w.cell? ⟨B, 4, none⟩ = some (.slice (some ⟨V, 0, none⟩) nw cp) := (hB.cell 4).trans b4
 obtain ⟨k, hkd⟩ : ∃ k, k = pc * (en + 1) + pos := ⟨_, rfl⟩
 obtain ⟨M, hMd⟩ : ∃ M, M = pc * (en + 1) := ⟨_, rfl⟩
 obtain ⟨q, hqd⟩ : ∃ q, q = k / 32 := ⟨_, rfl⟩
 obtain ⟨j, hjd⟩ : ∃ j, j = k % 32 := ⟨_, rfl⟩
 rw [← hkd] at hk hq hx hvis
 rw [← hqd] at hq hx
 rw [← hjd] at hvis
 have hM : ((pc : Int) * ((en : Int) + 1)) = (M : Int) := by rw [hMd]; simp
 have hMk : (M : Int) + (pos : Int) = (k : Int) := by rw [hkd, ← hMd]; simp
 have hMb : M < 1000000000 := by omega
 have hkb : k < 2000000000 := by omega
 have hqq : (k : Int) / 32 = (q : Int) := by omega
 have hj : bits .and .u64 (k : Int) 31 = (j : Int) := by rw [and31 k (by omega), hjd]
 have hjb : j < 32 := by omega
 have hc : w.cell? ⟨V, q, none⟩ = some (.int .u32 x) := by rw [hV.cell q]; unfold wordCells; rw [List.getElem?_map, hx]; rfl
 have hf := hV.free q
 have hpcb : pc < 1000 := by omega
 have hbit := and_bit x j hxl hjb
 rw [← hvis] at hbit
 cases hv : vis pc pos with
 | true =>
  rw [hv] at hbit
  refine Calls.mono (R := fun e w' => e = .returned (.bool false) ∧ w' = w) ?_ ?_
  ·clear hkd hMd hqd hjd hvis hx r hk hl hV hB b0 b4
   go_enter Tryz.func120, Tryz.ntmps120
   go_wp2
   go_ret
   exact ⟨rfl, rfl⟩
  ·rintro e w' ⟨rfl, rfl⟩
   exact ⟨rfl, words, by rw [mark_same hv]; exact r, hV, (Chg.refl _).mono (fun _ h => by cases h)⟩
 | false =>
  rw [hv] at hbit
  refine Calls.mono (R := fun e w' => e = .returned (.bool true) ∧ w' = w.setCell ⟨V, q, none⟩ (.int .u32 (bits .or .u32 (x : Int) (2 ^ j % 4294967296)))) ?_ ?_
  ·clear hkd hMd hqd hjd hvis hx r hk hl hV hB b0 b4
   go_enter Tryz.func120, Tryz.ntmps120
   go_wp2
   go_ret
   exact ⟨rfl, rfl⟩
  ·rintro e w' ⟨rfl, rfl⟩
   refine ⟨rfl, words.set q (x ||| 2 ^ j), ?_, ?_, Chg.set _ _ _ _⟩
   ·have := r.marked hpc hpos (x := x) (by rw [← hkd, ← hqd]; exact hx)
    rw [← hkd, ← hqd, ← hjd] at this
    exact this
   ·rw [or_bit x j hxl hjb]
    have := hV.set q (.int .u32 ((x ||| 2 ^ j : Nat) : Int))
    unfold wordCells at this ⊢
    rw [List.map_set]
    exact this

end Go.Proofs.YtkbmigfkclnlaaaGreatDoor
-- TYPES 235 202
namespace Go.Proofs.YtkbmigfkclnlaaaGreatDoor
open Go.RowKit Go.Rx

theorem job_info : (Tryz.prog.info? 235).map (fun i => (i.zero, i.size, i.bytes)) = some (some (.agg #[.int .u32 0, .bool false, .int .i64 0]), 3, 16) := by kernel_rfl

def jobCells (pc : Nat) (arg : Bool) (pos : Int) : List Value := [.int .u32 pc, .bool arg, .int .i64 pos]

theorem job_append (w : World) {ops : Array Oper} {rest : List Oper} {o : Oper} {a : Act} {Q : Exit → Act → World → Prop} (hgd : o.guard = none) (s x : Operand)
  (ho : o.op = .call { callee := .builtin .append, args := #[s, x], argTypes := #[202, 202] }) (base J n cj : Nat) (xs : List Value) (hs : a.eval s = .slice (some ⟨J, 0, none⟩) n cj)
  (hown : w.ownsRow base 235 3 (.slice (some ⟨J, 0, none⟩) n cj) n xs) (ad : Addr) (news : List Value) (hx : a.eval x = .slice (some ad) 1 1) (hl : news.length = 3)
  (hnews : ∀ j u, news[j]? = some u → w.cell? (ad.add j) = some u) (h1 : ∀ u ∈ news, u.oneCell' = true) (hn : n < 1000000000) (hbase : base ≤ w.heap.size)
  (h : ∀ g cap w', w'.ownsRow base 235 3 (.slice (some ⟨g, 0, none⟩) (n + 1) cap) (n + 1) (xs ++ news) → Chg [J] w w' → (g = J ∨ g = w.heap.size) → g < w'.heap.size → wpList Tryz.prog ops Q rest (a.put o.dst (.slice (some ⟨g, 0, none⟩) (n + 1) cap)) w') :
  wpList Tryz.prog ops Q (o :: rest) a w := by
 obtain ⟨i, hi, hz0, hz1, hz2⟩ := info_parts job_info
 refine wpList_append_lies w hgd s x 202 ho base 235 i _ 3 16 Tryz.underlying202 hi hz0 hz1 hz2 rfl (by omega) _ n xs hs hown ad 1 1 news hx hl hnews h1 (by omega) (by simp [maxLen]; omega) (by omega) hbase _ rfl ?_
 intro g cap w' h2 h3 h4 h5
 refine h g cap w' h2 (Chg.of_grown h3) ?_ h5
 rcases h4 with h4 | h4
 ·left
  simpa [Value.ownBlock] using h4.symm
 ·exact .inr h4

theorem push_true (N R PR I np : Nat) (pg : Nat → Inst) (w : World) (hP : ProgAt w N R PR I np pg) (pc : Nat) (hp0 : 0 < pc) (hpc : pc < np) (hnp : np ≤ 500) (hop : (pg pc).op ≠ 5)
  (B J n cj base : Nat) (bl : List Value) (tB : TypeId) (xs : List Value) (hB : Blk w B bl tB) (b3 : bl[3]? = some (.slice (some ⟨J, 0, none⟩) n cj)) (hJ : w.ownsRow base 235 3 (.slice (some ⟨J, 0, none⟩) n cj) n xs)
  (hJB : J ≠ B) (hn : n < 1000000000) (hbase : base ≤ w.heap.size) (pos : Int) :
  Calls Tryz.prog 119 #[.pointer (some ⟨B, 0, none⟩), .pointer (some ⟨R, 0, none⟩), .int .u32 pc, .int .i64 pos, .bool true] w fun e w' => e = .returned (.tuple #[]) ∧
   ∃ J' cj', Blk w' B (bl.set 3 (.slice (some ⟨J', 0, none⟩) (n + 1) cj')) tB ∧ w'.ownsRow base 235 3 (.slice (some ⟨J', 0, none⟩) (n + 1) cj') (n + 1) (xs ++ jobCells pc true pos) ∧ (J' = J ∨ w.heap.size ≤ J') ∧ Chg [B, J] w w' := by

 have h3 : w.cell? ⟨B, 3, none⟩ = some (.slice (some ⟨J, 0, none⟩) n cj) := (hB.cell 3).trans b3
 have hf := hB.free 3
 have hp1 := hP.prog
 obtain ⟨ci, hp2⟩ := hP.insts
 have hp3 := hP.op pc hp0 hpc
 have hpcb : pc < 1000 := by omega
 have hopb : decide (((pg pc).op : Int) = 5) = false := by rw [decide_eq_false_iff_not]; omega
 have hopc : ¬ ((pg pc).op : Int) = 5 := by omega
 have hBl := hB.lt

 go_enter Tryz.func119, Tryz.ntmps119
 go_wp2_with (at_builtin; refine job_append _ rfl _ _ rfl base J n cj xs rfl (hJ.alloc _) ⟨w.heap.size, 0, none⟩ (jobCells pc true pos) rfl rfl (by intro j u hu; match j, hu with | 0, hu => simpa [jobCells, Addr.add] using hu | 1, hu => simpa [jobCells, Addr.add] using hu | 2, hu => simpa [jobCells, Addr.add] using hu | j + 3, hu => simp [jobCells] at hu) (by intro u hu; simp [jobCells] at hu; rcases hu with rfl | rfl | rfl <;> rfl) hn (by simp; omega) ?_)
 intro g cap w1 hown hch hat hlt
 have c1 : Chg [J] w w1 := ((Chg.alloc w _).trans hch).mono (fun b hb _ => hb)
 have hB1 : Blk w1 B bl tB := hB.chg c1 (by simpa using fun h : B = J => hJB h.symm)
 have hf1 := hB1.free 3
 have hs1 : w1.cell? ⟨B, 3, none⟩ = some (.slice (some ⟨J, 0, none⟩) n cj) := (hB1.cell 3).trans b3
 have hgB : g ≠ B := by rcases hat with h | h <;> omega
 go_wp2
 go_end0
 refine ⟨rfl, g, cap, hB1.set 3 _, ?_, ?_, (c1.trans (Chg.set w1 B 3 _)).mono (fun b hb _ => by simp at hb ⊢; omega)⟩
 ·exact ownsRow_chg hown (Chg.set w1 B 3 _) (by simpa using hgB)
 ·rcases hat with h | h
  ·exact .inl h
  ·exact .inr (by omega)

theorem push_first (N R PR I np V : Nat) (G : World → Prop) (pg : Nat → Inst) (w : World) (hP : ProgAt w N R PR I np pg) (pc : Nat) (hp0 : 0 < pc) (hpc : pc < np) (hnp : np ≤ 500) (hop : (pg pc).op ≠ 5)
  (B J n cj base : Nat) (bl : List Value) (tB : TypeId) (xs : List Value) (hB : Blk w B bl tB) (b3 : bl[3]? = some (.slice (some ⟨J, 0, none⟩) n cj)) (hJ : w.ownsRow base 235 3 (.slice (some ⟨J, 0, none⟩) n cj) n xs)
  (hJB : J ≠ B) (hn : n < 1000000000) (hbase : base ≤ w.heap.size) (pos : Int) (hVB : V ≠ B) (hVJ : V ≠ J)
  (hv : Calls Tryz.prog 120 #[.pointer (some ⟨B, 0, none⟩), .int .u32 pc, .int .i64 pos] w fun e w' => e = .returned (.bool true) ∧ Chg [V] w w' ∧ G w') :
  Calls Tryz.prog 119 #[.pointer (some ⟨B, 0, none⟩), .pointer (some ⟨R, 0, none⟩), .int .u32 pc, .int .i64 pos, .bool false] w fun e w' => e = .returned (.tuple #[]) ∧
   ∃ w0 J' cj', G w0 ∧ Chg [V] w w0 ∧ Blk w' B (bl.set 3 (.slice (some ⟨J', 0, none⟩) (n + 1) cj')) tB ∧ w'.ownsRow base 235 3 (.slice (some ⟨J', 0, none⟩) (n + 1) cj') (n + 1) (xs ++ jobCells pc false pos) ∧ (J' = J ∨ w0.heap.size ≤ J') ∧ Chg [B, J] w0 w' := by

 have h3 : w.cell? ⟨B, 3, none⟩ = some (.slice (some ⟨J, 0, none⟩) n cj) := (hB.cell 3).trans b3
 have hf := hB.free 3
 have hp1 := hP.prog
 obtain ⟨ci, hp2⟩ := hP.insts
 have hp3 := hP.op pc hp0 hpc
 have hpcb : pc < 1000 := by omega
 have hopb : decide (((pg pc).op : Int) = 5) = false := by rw [decide_eq_false_iff_not]; omega
 have hopc : ¬ ((pg pc).op : Int) = 5 := by omega
 have hBl := hB.lt

 go_enter Tryz.func119, Tryz.ntmps119
 go_wp2_with (first | (go_at_call 120; (with_reducible refine hv.mono ?_)))
 rintro e w0 ⟨rfl, hch0, hg⟩
 have hB0 : Blk w0 B bl tB := hB.chg hch0 (by simpa using fun h : B = V => hVB h.symm)
 have hJ0 := ownsRow_chg hJ hch0 (by simpa using fun h : J = V => hVJ h.symm)
 have h30 : w0.cell? ⟨B, 3, none⟩ = some (.slice (some ⟨J, 0, none⟩) n cj) := (hB0.cell 3).trans b3
 have hbase0 : base ≤ w0.heap.size := Nat.le_trans hbase hch0.size
 have hBl0 := hB0.lt
 clear h3 hf hv
 go_wp2_with (at_builtin; refine job_append _ rfl _ _ rfl base J n cj xs rfl (hJ0.alloc _) ⟨w0.heap.size, 0, none⟩ (jobCells pc false pos) rfl rfl (by intro j u hu; match j, hu with | 0, hu => simpa [jobCells, Addr.add] using hu | 1, hu => simpa [jobCells, Addr.add] using hu | 2, hu => simpa [jobCells, Addr.add] using hu | j + 3, hu => simp [jobCells] at hu) (by intro u hu; simp [jobCells] at hu; rcases hu with rfl | rfl | rfl <;> rfl) hn (by simp; omega) ?_)
 intro g cap w1 hown hch hat hlt
 have c1 : Chg [J] w0 w1 := ((Chg.alloc w0 _).trans hch).mono (fun b hb _ => hb)
 have hB1 : Blk w1 B bl tB := hB0.chg c1 (by simpa using fun h : B = J => hJB h.symm)
 have hf1 := hB1.free 3
 have hs1 : w1.cell? ⟨B, 3, none⟩ = some (.slice (some ⟨J, 0, none⟩) n cj) := (hB1.cell 3).trans b3
 have hgB : g ≠ B := by rcases hat with h | h <;> omega
 go_wp2
 go_end0
 refine ⟨rfl, w0, g, cap, hg, hch0, hB1.set 3 _, ?_, ?_, (c1.trans (Chg.set w1 B 3 _)).mono (fun b hb _ => by simp at hb ⊢; omega)⟩
 ·exact ownsRow_chg hown (Chg.set w1 B 3 _) (by simpa using hgB)
 ·rcases hat with h | h
  ·exact .inl h
  ·exact .inr (by omega)

end Go.Proofs.YtkbmigfkclnlaaaGreatDoor
namespace Go.Proofs.YtkbmigfkclnlaaaGreatDoor
open Go.RowKit

theorem dec_plain (t : ByteArray) (w : World) (h0 : 0 < t.size) (hb : (t[0]'h0).toNat < 128) :
  Calls Tryz.prog 176 #[.string t] w fun e w' => e = .returned (.tuple #[.int .i32 ((t[0]'h0).toNat : Nat), .int .i64 1]) ∧ w' = w := by
 have hb' : (((t[0]'h0).toNat : Nat) : Int) < 128 := by omega
 have hb2 : decide ((((t[0]'h0).toNat : Nat) : Int) < 128) = true := decide_eq_true hb'
 have he : t.toList.isEmpty = false := by
  rw [ByteArray.toList_eq]
  have : t.data.toList.length = t.size := Array.length_toList
  cases hd : t.data.toList with
  | nil => rw [hd] at this; simp at this; omega
  | cons a l => rfl
 have hne : ¬ t.toList = [] := by intro h; rw [h] at he; cases he
 go_enter Tryz.func176, Tryz.ntmps176
 go_wp2_with fail
 go_ret2
 exact ⟨rfl, rfl⟩

theorem step_in {o : Nat} (B pos : Nat) (s : ByteArray) (w : World) (hs : w.cell? ⟨B, o, none⟩ = some (.string s)) (hpos : pos < s.size) (hb : (s[pos]'hpos).toNat < 128) (hsz : s.size < 100000000000) :
  Calls Tryz.prog 174 #[.pointer (some ⟨B, o, none⟩), .int .i64 pos] w fun e w' => e = .returned (.tuple #[.int .i32 ((s[pos]'hpos).toNat : Nat), .int .i64 1]) ∧ w' = w := by
 have h0 : 0 < (s.extract pos s.size).size := by simp [ByteArray.size_extract]; omega
 have hat : (s.extract pos s.size)[0]'h0 = s[pos]'hpos := by simp [ByteArray.getElem_extract]
 have hd := dec_plain (s.extract pos s.size) w h0 (by rw [hat]; exact hb)
 rw [hat] at hd
 go_enter Tryz.func174, Tryz.ntmps174
 go_wp2_with (first | (go_at_call 176; (with_reducible refine hd.mono ?_); rintro e w' ⟨rfl, rfl⟩))
 go_ret2
 exact ⟨rfl, rfl⟩

theorem step_end {o : Nat} (B pos : Nat) (s : ByteArray) (w : World) (hs : w.cell? ⟨B, o, none⟩ = some (.string s)) (hpos : ¬ pos < s.size) :
  Calls Tryz.prog 174 #[.pointer (some ⟨B, o, none⟩), .int .i64 pos] w fun e w' => e = .returned (.tuple #[.int .i32 (-1), .int .i64 0]) ∧ w' = w := by
 go_enter Tryz.func174, Tryz.ntmps174
 go_wp2_with fail
 go_ret2
 exact ⟨rfl, rfl⟩

end Go.Proofs.YtkbmigfkclnlaaaGreatDoor
namespace Go.Proofs.YtkbmigfkclnlaaaGreatDoor
open Go.RowKit

def linF (l : List Int) (r : Int) : Nat → Nat → Int
 | 0, _ => -1
 | n + 1, j => if j < l.length then if r < l.getD j 0 then -1 else if r ≤ l.getD (j + 1) 0 then (j : Int) / 2 else linF l r n (j + 2) else -1

def binF (l : List Int) (r : Int) : Nat → Nat → Nat → Int
 | 0, _, _ => -1
 | n + 1, lo, hi => if lo < hi then if l.getD (2 * ((lo + hi) / 2)) 0 ≤ r then if r ≤ l.getD (2 * ((lo + hi) / 2) + 1) 0 then ((lo + hi) / 2 : Nat) else binF l r n ((lo + hi) / 2 + 1) hi else binF l r n lo ((lo + hi) / 2) else -1

def mrPos (l : List Int) (r : Int) : Int :=
 if l.length = 0 then -1
 else if l.length = 1 then if r = l.getD 0 0 then 0 else -1
 else if l.length = 2 then if l.getD 0 0 ≤ r ∧ r ≤ l.getD 1 0 then 0 else -1
 else if l.length = 4 ∨ l.length = 6 ∨ l.length = 8 then linF l r (l.length + 1) 0
 else binF l r (l.length + 1) 0 (l.length / 2)

theorem linF_at (l : List Int) (r : Int) (n j : Nat) (h : j < l.length) (hn : l.length ≤ j + n) : linF l r n j = if r < l.getD j 0 then -1 else if r ≤ l.getD (j + 1) 0 then (j : Int) / 2 else linF l r (n - 1) (j + 2) := by
 cases n with
 | zero => omega
 | succ n => rw [linF, if_pos h]; rfl

theorem linF_end (l : List Int) (r : Int) (n j : Nat) (h : ¬ j < l.length) : linF l r n j = -1 := by
 cases n with
 | zero => rfl
 | succ n => rw [linF, if_neg h]

def PosIs (v : Int) (w : World) (e : Ending) (w' : World) : Prop := e = .returned (.int .i64 v) ∧ w' = w

def ClassAt (w : World) (rb : Nat) (l : List Int) : Prop := ∀ i x, l[i]? = some x → w.cell? ⟨rb, i, none⟩ = some (.int .i32 x)

theorem ClassAt.cell {w : World} {rb : Nat} {l : List Int} (h : ClassAt w rb l) (i : Nat) (hi : i < l.length) : w.cell? ⟨rb, i, none⟩ = some (.int .i32 (l.getD i 0)) := by
 have hx : l[i]? = some (l[i]'hi) := List.getElem?_eq_getElem hi
 rw [h i _ hx, List.getD_eq_getElem?_getD, hx]
 rfl

theorem pos_lin (I io rb cr : Nat) (l : List Int) (r : Int) (w : World) (h3 : w.cell? ⟨I, io + 3, none⟩ = some (.slice (some ⟨rb, 0, none⟩) l.length cr)) (hc : ClassAt w rb l)
  (n : Nat) (hn : l.length = n) (hl : n = 4 ∨ n = 6 ∨ n = 8) : Calls Tryz.prog 117 #[.pointer (some ⟨I, io, none⟩), .int .i32 r] w (PosIs (linF l r (n + 1) 0) w) := by
 have H := Lib.hid hn
 have Hc := Lib.hid hc
 rw [hn] at h3
 clear hn hc
 obtain ⟨T, hT⟩ : ∃ T, T = linF l r (n + 1) 0 := ⟨_, rfl⟩
 rw [← hT]
 have HT := Lib.hid hT
 clear hT
 rcases hl with rfl | rfl | rfl
 all_goals
  go_enter Tryz.func117, Tryz.ntmps117
  go_wp2_with fail
  go_loop [7] (fun i => ∃ j n : Nat, j ≤ l.length ∧ j % 2 = 0 ∧ l.length ≤ j + n ∧ Hid (T = linF l r n j) ∧ i = .int .i64 j) (fun i => l.length - (intOf i).toNat)
  case atStart => exact ⟨0, _, by omega, by omega, by rw [H.out]; omega, HT, rfl⟩
  case round =>
   obtain ⟨j, n, hj, hj2, hjn, HJ, rfl⟩ := hrel
   have hlen := H.out
   rw [hlen] at hj hjn
   by_cases hlt : j < l.length
   ·have c0 := Hc.out.cell j hlt
    have c1 := Hc.out.cell (j + 1) (by omega)
    have e := HJ.out
    rw [linF_at l r n j hlt (by omega)] at e
    have he := Lib.hid e
    rw [hlen] at hlt
    clear e hlen HJ
    obtain ⟨x0, hx0⟩ : ∃ x, x = l.getD j 0 := ⟨_, rfl⟩
    obtain ⟨x1, hx1⟩ : ∃ x, x = l.getD (j + 1) 0 := ⟨_, rfl⟩
    rw [← hx0] at c0
    rw [← hx1] at c1
    rw [← hx0, ← hx1] at he
    clear hx0 hx1
    have hlt' : (j : Int) + 1 < 9 := by omega
    by_cases h0 : r < x0
    ·rw [if_pos h0] at he
     obtain rfl := he.out
     go_wp2_with fail
     go_ret
     exact ⟨rfl, rfl⟩
    ·rw [if_neg h0] at he
     have h0' : x0 ≤ r := by omega
     by_cases h1 : r ≤ x1
     ·rw [if_pos h1] at he
      obtain rfl := he.out
      go_wp2_with fail
      go_ret
      exact ⟨rfl, rfl⟩
     ·rw [if_neg h1] at he
      have h1' : x1 < r := by omega
      go_wp2_with fail
      go_round
      case rel => exact ⟨j + 2, n - 1, by rw [H.out]; omega, by omega, by rw [H.out]; omega, he, by go_num⟩
      case measure => have := H.out; simp [intOf]; omega
   ·have e := HJ.out
    rw [linF_end l r n j hlt] at e
    subst e
    have hj8 := hlen
    rw [hlen] at hlt
    clear hlen hj8
    go_wp2_with fail
    go_ret
    exact ⟨rfl, rfl⟩

theorem binF_at (l : List Int) (r : Int) (n lo hi m : Nat) (hm : m = (lo + hi) / 2) (h : lo < hi) (hn : hi < lo + n) : binF l r n lo hi = if l.getD (2 * m) 0 ≤ r then if r ≤ l.getD (2 * m + 1) 0 then ((m : Nat) : Int) else binF l r (n - 1) (m + 1) hi else binF l r (n - 1) lo m := by
 subst hm
 cases n with
 | zero => omega
 | succ n => rw [binF, if_pos h]; rfl

theorem binF_end (l : List Int) (r : Int) (n lo hi : Nat) (h : ¬ lo < hi) : binF l r n lo hi = -1 := by
 cases n with
 | zero => rfl
 | succ n => rw [binF, if_neg h]

theorem pos_bin (I io rb cr : Nat) (l : List Int) (r : Int) (w : World) (h3 : w.cell? ⟨I, io + 3, none⟩ = some (.slice (some ⟨rb, 0, none⟩) l.length cr)) (hc : ClassAt w rb l)
  (hn : l.length = 10) : Calls Tryz.prog 117 #[.pointer (some ⟨I, io, none⟩), .int .i32 r] w (PosIs (binF l r 11 0 5) w) := by
 have H := Lib.hid hn
 have Hc := Lib.hid hc
 rw [hn] at h3
 clear hn hc
 obtain ⟨T, hT⟩ : ∃ T, T = binF l r 11 0 5 := ⟨_, rfl⟩
 rw [← hT]
 have HT := Lib.hid hT
 clear hT
 go_enter Tryz.func117, Tryz.ntmps117
 go_wp2_with fail
 go_loop [8, 9] (fun a b => ∃ lo hi n : Nat, lo ≤ hi ∧ hi ≤ 5 ∧ hi < lo + n ∧ Hid (T = binF l r n lo hi) ∧ a = .int .i64 lo ∧ b = .int .i64 hi) (fun a b => (intOf b).toNat - (intOf a).toNat)
 case atStart => exact ⟨0, 5, _, by omega, by omega, by omega, HT, rfl, rfl⟩
 case round =>
  obtain ⟨lo, hi, n, hj, hj2, hjn, HJ, rfl, rfl⟩ := hrel
  by_cases hlt : lo < hi
  ·obtain ⟨m, hm⟩ : ∃ m, m = (lo + hi) / 2 := ⟨_, rfl⟩
   have hlen := H.out
   have c0 := Hc.out.cell (2 * m) (by omega)
   have c1 := Hc.out.cell (2 * m + 1) (by omega)
   have e := HJ.out
   rw [binF_at l r n lo hi m hm hlt hjn] at e
   have he := Lib.hid e
   clear e hlen HJ
   obtain ⟨x0, hx0⟩ : ∃ x, x = l.getD (2 * m) 0 := ⟨_, rfl⟩
   obtain ⟨x1, hx1⟩ : ∃ x, x = l.getD (2 * m + 1) 0 := ⟨_, rfl⟩
   rw [← hx0] at c0
   rw [← hx1] at c1
   rw [← hx0, ← hx1] at he
   clear hx0 hx1
   have hm1 : lo ≤ m := by omega
   have hm2 : m < hi := by omega
   have hmi : ((lo : Int) + (hi : Int)) / 2 = (m : Int) := by omega
   clear hm
   by_cases h0 : x0 ≤ r
   ·rw [if_pos h0] at he
    by_cases h1 : r ≤ x1
    ·rw [if_pos h1] at he
     obtain rfl := he.out
     go_wp2_with fail
     go_ret
     exact ⟨rfl, rfl⟩
    ·rw [if_neg h1] at he
     have h1' : x1 < r := by omega
     go_wp2_with fail
     go_round
     case rel => exact ⟨m + 1, hi, n - 1, by omega, by omega, by omega, he, by go_num, rfl⟩
     case measure => simp [intOf]; omega
   ·rw [if_neg h0] at he
    have h0' : r < x0 := by omega
    go_wp2_with fail
    go_round
    case rel => exact ⟨lo, m, n - 1, by omega, by omega, by omega, he, rfl, rfl⟩
    case measure => simp [intOf]; omega
  ·have e := HJ.out
   rw [binF_end l r n lo hi hlt] at e
   subst e
   go_wp2_with fail
   go_ret
   exact ⟨rfl, rfl⟩

end Go.Proofs.YtkbmigfkclnlaaaGreatDoor
namespace Go.Proofs.YtkbmigfkclnlaaaGreatDoor
open Go.RowKit

def ClassLen (n : Nat) : Prop := n = 1 ∨ n = 2 ∨ n = 4 ∨ n = 6 ∨ n = 8 ∨ n = 10

theorem pos_one (I io rb cr : Nat) (x0 r : Int) (w : World) (h3 : w.cell? ⟨I, io + 3, none⟩ = some (.slice (some ⟨rb, 0, none⟩) 1 cr)) (c0 : w.cell? ⟨rb, 0, none⟩ = some (.int .i32 x0)) :
  Calls Tryz.prog 117 #[.pointer (some ⟨I, io, none⟩), .int .i32 r] w (PosIs (if r = x0 then 0 else -1) w) := by
 by_cases h : r = x0
 ·rw [if_pos h]
  have h' : (r == x0) = true := by simp [h]
  subst h
  go_enter Tryz.func117, Tryz.ntmps117
  go_wp2_with fail
  go_ret
  exact ⟨rfl, rfl⟩
 ·rw [if_neg h]
  have h' : (r == x0) = false := by simp [h]
  go_enter Tryz.func117, Tryz.ntmps117
  go_wp2_with fail
  go_ret
  exact ⟨rfl, rfl⟩

theorem pos_two (I io rb cr : Nat) (x0 x1 r : Int) (w : World) (h3 : w.cell? ⟨I, io + 3, none⟩ = some (.slice (some ⟨rb, 0, none⟩) 2 cr)) (c0 : w.cell? ⟨rb, 0, none⟩ = some (.int .i32 x0)) (c1 : w.cell? ⟨rb, 1, none⟩ = some (.int .i32 x1)) :
  Calls Tryz.prog 117 #[.pointer (some ⟨I, io, none⟩), .int .i32 r] w (PosIs (if x0 ≤ r ∧ r ≤ x1 then 0 else -1) w) := by
 by_cases h0 : x0 ≤ r
 ·by_cases h1 : r ≤ x1
  ·rw [if_pos ⟨h0, h1⟩]
   go_enter Tryz.func117, Tryz.ntmps117
   go_wp2_with fail
   go_ret
   exact ⟨rfl, rfl⟩
  ·rw [if_neg (fun h => h1 h.2)]
   have h1' : x1 < r := by omega
   go_enter Tryz.func117, Tryz.ntmps117
   go_wp2_with fail
   go_ret
   exact ⟨rfl, rfl⟩
 ·rw [if_neg (fun h => h0 h.1)]
  have h0' : r < x0 := by omega
  go_enter Tryz.func117, Tryz.ntmps117
  go_wp2_with fail
  go_ret
  exact ⟨rfl, rfl⟩

theorem pos_any (I io rb cr : Nat) (l : List Int) (r : Int) (w : World) (h3 : w.cell? ⟨I, io + 3, none⟩ = some (.slice (some ⟨rb, 0, none⟩) l.length cr)) (hc : ClassAt w rb l) (hl : ClassLen l.length) :
  Calls Tryz.prog 117 #[.pointer (some ⟨I, io, none⟩), .int .i32 r] w (PosIs (mrPos l r) w) := by
 unfold mrPos
 rcases hl with h | h | h | h | h | h
 ·rw [if_neg (by omega), if_pos h]
  rw [h] at h3
  exact pos_one I io rb cr _ r w h3 (hc.cell 0 (by omega))
 ·rw [if_neg (by omega), if_neg (by omega), if_pos h]
  rw [h] at h3
  exact pos_two I io rb cr _ _ r w h3 (hc.cell 0 (by omega)) (hc.cell 1 (by omega))
 ·rw [if_neg (by omega), if_neg (by omega), if_neg (by omega), if_pos (by omega)]
  have := pos_lin I io rb cr l r w h3 hc 4 h (by omega)
  rw [h]; exact this
 ·rw [if_neg (by omega), if_neg (by omega), if_neg (by omega), if_pos (by omega)]
  have := pos_lin I io rb cr l r w h3 hc 6 h (by omega)
  rw [h]; exact this
 ·rw [if_neg (by omega), if_neg (by omega), if_neg (by omega), if_pos (by omega)]
  have := pos_lin I io rb cr l r w h3 hc 8 h (by omega)
  rw [h]; exact this
 ·rw [if_neg (by omega), if_neg (by omega), if_neg (by omega), if_neg (by omega)]
  have := pos_bin I io rb cr l r w h3 hc h
  rw [h]; exact this

def classTakes (l : List Int) (r : Int) : Bool := mrPos l r != -1

theorem match_rune_at (I io rb cr : Nat) (l : List Int) (r : Int) (w : World) (h3 : w.cell? ⟨I, io + 3, none⟩ = some (.slice (some ⟨rb, 0, none⟩) l.length cr)) (hc : ClassAt w rb l) (hl : ClassLen l.length) :
  Calls Tryz.prog 99 #[.pointer (some ⟨I, io, none⟩), .int .i32 r] w fun e w' => e = .returned (.bool (classTakes l r)) ∧ w' = w := by
 have h := pos_any I io rb cr l r w h3 hc hl
 unfold classTakes
 obtain ⟨v, hv⟩ : ∃ v, v = mrPos l r := ⟨_, rfl⟩
 rw [← hv] at h ⊢
 clear h3 hc hl hv
 go_enter Tryz.func99, Tryz.ntmps99
 go_wp2_with (first | (go_at_call 117; (with_reducible refine h.mono ?_); rintro e w' ⟨rfl, rfl⟩))
 go_ret
 exact ⟨rfl, rfl⟩

theorem match_rune (I k rb cr : Nat) (l : List Int) (r : Int) (w : World) (h3 : w.cell? ⟨I, k * 4 + 3, none⟩ = some (.slice (some ⟨rb, 0, none⟩) l.length cr)) (hc : ClassAt w rb l) (hl : ClassLen l.length) :
  Calls Tryz.prog 99 #[.pointer (some ⟨I, k * 4, none⟩), .int .i32 r] w fun e w' => e = .returned (.bool (classTakes l r)) ∧ w' = w := match_rune_at I (k * 4) rb cr l r w h3 hc hl

end Go.Proofs.YtkbmigfkclnlaaaGreatDoor
namespace Go.Proofs.YtkbmigfkclnlaaaGreatDoor
open Go.RowKit Go.Rx Go.Rx.Env

structure Takes (E : Env) : Prop where
 cls : ∀ i r, i.op = 7 → E.takes i r = classTakes i.rune r
 one : ∀ i r, i.op = 8 → E.takes i r = decide (i.rune = [r])

theorem cls_aln : ∀ x : Nat, x < 128 → classTakes [48, 57, 65, 90, 97, 122] (x : Int) = aln x := by decide +kernel
theorem cls_anh : ∀ x : Nat, x < 128 → classTakes [45, 45, 48, 57, 65, 90, 97, 122] (x : Int) = anh x := by decide +kernel
theorem cls_hcl : ∀ x : Nat, x < 128 → classTakes [48, 58, 65, 70, 97, 102] (x : Int) = hcl x := by decide +kernel
theorem cls_dig : ∀ x : Nat, x < 128 → classTakes [48, 57] (x : Int) = dig x := by decide +kernel
theorem cls_low : ∀ x : Nat, x < 128 → classTakes [48, 57, 97, 122] (x : Int) = low x := by decide +kernel
theorem cls_dot : ∀ x : Nat, x < 128 → classTakes [46, 46, 95, 95] (x : Int) = (fun x => is 46 x || is 95 x) x := by decide +kernel
theorem cls_wrd : ∀ x : Nat, x < 128 → classTakes [48, 57, 65, 90, 95, 95, 97, 122] (x : Int) = wrd x := by decide +kernel
theorem cls_tch : ∀ x : Nat, x < 128 → classTakes [45, 46, 48, 57, 65, 90, 95, 95, 97, 122] (x : Int) = tch x := by decide +kernel
theorem cls_ltr : ∀ x : Nat, x < 128 → classTakes [65, 90, 97, 122] (x : Int) = ltr x := by decide +kernel
theorem cls_asp : ∀ x : Nat, x < 128 → classTakes [43, 43, 45, 46, 95, 95] (x : Int) = asp x := by decide +kernel
theorem cls_hex : ∀ x : Nat, x < 128 → classTakes [48, 57, 65, 70, 97, 102] (x : Int) = hex x := by decide +kernel

theorem frag_cls {E : Env} (tk : Takes E) {t : List Nat} (ho : Over E t) (hx : ∀ x ∈ t, x < 128) {a b : Nat} {p : Nat → Bool} {l : List Int} (h : E.prog a = ⟨7, b, 0, l⟩) (hl : ∀ x : Nat, x < 128 → classTakes l (x : Int) = p x) : Frag E t a (One p) b :=
 frag_one ho (by rw [h]; exact Nat.le_refl _) (by rw [h]) (fun x hx => by rw [tk.cls _ _ (by rw [h]), h]; exact hl x hx) hx

theorem frag_chr {E : Env} (tk : Takes E) {t : List Nat} (ho : Over E t) (hx : ∀ x ∈ t, x < 128) {a b c : Nat} (h : E.prog a = ⟨8, b, 0, [(c : Int)]⟩) : Frag E t a (One (is c)) b :=
 frag_one ho (by rw [h]; exact Nat.le_succ _) (by rw [h]) (fun x hx => by
  rw [tk.one _ _ (by rw [h]), h]
  unfold is
  simp only [List.cons.injEq, and_true]
  rw [decide_eq_decide]
  constructor <;> intro h' <;> omega) hx

theorem one_ne {p : Nat → Bool} (v : List Nat) (h : One p v) : v ≠ [] := by
 obtain ⟨x, rfl, _⟩ := h; simp
theorem cat_ne {L M : List Nat → Prop} (hL : ∀ v, L v → v ≠ []) (v : List Nat) (h : Cat L M v) : v ≠ [] := by
 obtain ⟨a, b, rfl, ha, _⟩ := h
 have := hL a ha
 simp [this]

structure PathAt (E : Env) (p : Nat) : Prop where
 f0 : E.prog (p) = ⟨7, p + 1, 0, [48, 57, 97, 122]⟩
 f1 : E.prog (p + 1) = ⟨0, p, p + 11, []⟩
 f2 : E.prog (p + 2) = ⟨7, p + 9, 0, [46, 46, 95, 95]⟩
 f3 : E.prog (p + 3) = ⟨8, p + 4, 0, [95]⟩
 f4 : E.prog (p + 4) = ⟨8, p + 9, 0, [95]⟩
 f5 : E.prog (p + 5) = ⟨0, p + 2, p + 3, []⟩
 f6 : E.prog (p + 6) = ⟨8, p + 7, 0, [45]⟩
 f7 : E.prog (p + 7) = ⟨0, p + 6, p + 9, []⟩
 f8 : E.prog (p + 8) = ⟨0, p + 5, p + 6, []⟩
 f9 : E.prog (p + 9) = ⟨7, p + 10, 0, [48, 57, 97, 122]⟩
 f10 : E.prog (p + 10) = ⟨0, p + 9, p + 11, []⟩
 f11 : E.prog (p + 11) = ⟨0, p + 8, p + 25, []⟩
 f12 : E.prog (p + 12) = ⟨8, p + 13, 0, [47]⟩
 f13 : E.prog (p + 13) = ⟨7, p + 14, 0, [48, 57, 97, 122]⟩
 f14 : E.prog (p + 14) = ⟨0, p + 13, p + 24, []⟩
 f15 : E.prog (p + 15) = ⟨7, p + 22, 0, [46, 46, 95, 95]⟩
 f16 : E.prog (p + 16) = ⟨8, p + 17, 0, [95]⟩
 f17 : E.prog (p + 17) = ⟨8, p + 22, 0, [95]⟩
 f18 : E.prog (p + 18) = ⟨0, p + 15, p + 16, []⟩
 f19 : E.prog (p + 19) = ⟨8, p + 20, 0, [45]⟩
 f20 : E.prog (p + 20) = ⟨0, p + 19, p + 22, []⟩
 f21 : E.prog (p + 21) = ⟨0, p + 18, p + 19, []⟩
 f22 : E.prog (p + 22) = ⟨7, p + 23, 0, [48, 57, 97, 122]⟩
 f23 : E.prog (p + 23) = ⟨0, p + 22, p + 24, []⟩
 f24 : E.prog (p + 24) = ⟨0, p + 21, p + 25, []⟩
 f25 : E.prog (p + 25) = ⟨0, p + 12, p + 26, []⟩

section
variable {E : Env} (tk : Takes E) {t : List Nat} (ho : Over E t) (hx : ∀ x ∈ t, x < 128)
include tk ho hx

theorem path_frag {p : Nat} (h : PathAt E p) : Frag E t p Path (p + 26) := by
 have w0 : Frag E t (p) Word (p + 11) := frag_cat (frag_cls tk ho hx h.f0 cls_low) (frag_star (by rw [h.f1]) (by rw [h.f1]) (by rw [h.f1]) (frag_cls tk ho hx h.f0 cls_low) one_ne)
 have v0 : Frag E t (p + 9) Word (p + 11) := frag_cat (frag_cls tk ho hx h.f9 cls_low) (frag_star (by rw [h.f10]) (by rw [h.f10]) (by rw [h.f10]) (frag_cls tk ho hx h.f9 cls_low) one_ne)
 have s0 : Frag E t (p + 8) Sep (p + 9) := frag_alt (by rw [h.f8]) (by rw [h.f8]) (by rw [h.f8]) (frag_alt (by rw [h.f5]) (by rw [h.f5]) (by rw [h.f5]) (frag_cls tk ho hx h.f2 cls_dot) (frag_cat (frag_chr tk ho hx h.f3) (frag_chr tk ho hx h.f4))) (frag_cat (frag_chr tk ho hx h.f6) (frag_star (by rw [h.f7]) (by rw [h.f7]) (by rw [h.f7]) (frag_chr tk ho hx h.f6) one_ne))
 have c0 : Frag E t (p) Comp (p + 25) := frag_cat w0 (frag_star (by rw [h.f11]) (by rw [h.f11]) (by rw [h.f11]) (frag_cat s0 v0) (fun v h => cat_ne (fun u g => (sep_chars g).1) v h))
 have w13 : Frag E t (p + 13) Word (p + 24) := frag_cat (frag_cls tk ho hx h.f13 cls_low) (frag_star (by rw [h.f14]) (by rw [h.f14]) (by rw [h.f14]) (frag_cls tk ho hx h.f13 cls_low) one_ne)
 have v13 : Frag E t (p + 22) Word (p + 24) := frag_cat (frag_cls tk ho hx h.f22 cls_low) (frag_star (by rw [h.f23]) (by rw [h.f23]) (by rw [h.f23]) (frag_cls tk ho hx h.f22 cls_low) one_ne)
 have s13 : Frag E t (p + 21) Sep (p + 22) := frag_alt (by rw [h.f21]) (by rw [h.f21]) (by rw [h.f21]) (frag_alt (by rw [h.f18]) (by rw [h.f18]) (by rw [h.f18]) (frag_cls tk ho hx h.f15 cls_dot) (frag_cat (frag_chr tk ho hx h.f16) (frag_chr tk ho hx h.f17))) (frag_cat (frag_chr tk ho hx h.f19) (frag_star (by rw [h.f20]) (by rw [h.f20]) (by rw [h.f20]) (frag_chr tk ho hx h.f19) one_ne))
 have c13 : Frag E t (p + 13) Comp (p + 25) := frag_cat w13 (frag_star (by rw [h.f24]) (by rw [h.f24]) (by rw [h.f24]) (frag_cat s13 v13) (fun v h => cat_ne (fun u g => (sep_chars g).1) v h))
 exact frag_cat c0 (frag_star (by rw [h.f25]) (by rw [h.f25]) (by rw [h.f25]) (frag_cat (frag_chr tk ho hx h.f12) c13) (fun v h => cat_ne one_ne v h))

omit tk ho hx in
structure DomAt (E : Env) : Prop where
 f3 : E.prog 3 = ⟨7, 8, 0, [48, 57, 65, 90, 97, 122]⟩
 f4 : E.prog 4 = ⟨6, 16, 0, []⟩
 f5 : E.prog 5 = ⟨7, 6, 0, [45, 45, 48, 57, 65, 90, 97, 122]⟩
 f6 : E.prog 6 = ⟨0, 5, 7, []⟩
 f7 : E.prog 7 = ⟨7, 16, 0, [48, 57, 65, 90, 97, 122]⟩
 f8 : E.prog 8 = ⟨0, 4, 6, []⟩
 f9 : E.prog 9 = ⟨8, 10, 0, [46]⟩
 f10 : E.prog 10 = ⟨7, 15, 0, [48, 57, 65, 90, 97, 122]⟩
 f11 : E.prog 11 = ⟨6, 16, 0, []⟩
 f12 : E.prog 12 = ⟨7, 13, 0, [45, 45, 48, 57, 65, 90, 97, 122]⟩
 f13 : E.prog 13 = ⟨0, 12, 14, []⟩
 f14 : E.prog 14 = ⟨7, 16, 0, [48, 57, 65, 90, 97, 122]⟩
 f15 : E.prog 15 = ⟨0, 11, 13, []⟩
 f16 : E.prog 16 = ⟨0, 9, 25, []⟩
 f17 : E.prog 17 = ⟨8, 18, 0, [91]⟩
 f18 : E.prog 18 = ⟨7, 19, 0, [48, 58, 65, 70, 97, 102]⟩
 f19 : E.prog 19 = ⟨0, 18, 20, []⟩
 f20 : E.prog 20 = ⟨8, 25, 0, [93]⟩
 f21 : E.prog 21 = ⟨0, 3, 17, []⟩
 f22 : E.prog 22 = ⟨8, 23, 0, [58]⟩
 f23 : E.prog 23 = ⟨7, 24, 0, [48, 57]⟩
 f24 : E.prog 24 = ⟨0, 23, 26, []⟩
 f25 : E.prog 25 = ⟨0, 22, 26, []⟩

theorem domain_frag (h : DomAt E) : Frag E t 21 Domain 26 := by
 have l1 : Frag E t 3 Label 16 := frag_cat (frag_cls tk ho hx h.f3 cls_aln) (frag_alt (by rw [h.f8]) (by rw [h.f8]) (by rw [h.f8]) (frag_nop (by rw [h.f4]) (by rw [h.f4])) (frag_cat (frag_star (by rw [h.f6]) (by rw [h.f6]) (by rw [h.f6]) (frag_cls tk ho hx h.f5 cls_anh) one_ne) (frag_cls tk ho hx h.f7 cls_aln)))
 have l2 : Frag E t 10 Label 16 := frag_cat (frag_cls tk ho hx h.f10 cls_aln) (frag_alt (by rw [h.f15]) (by rw [h.f15]) (by rw [h.f15]) (frag_nop (by rw [h.f11]) (by rw [h.f11])) (frag_cat (frag_star (by rw [h.f13]) (by rw [h.f13]) (by rw [h.f13]) (frag_cls tk ho hx h.f12 cls_anh) one_ne) (frag_cls tk ho hx h.f14 cls_aln)))
 have n1 : Frag E t 3 Names 25 := frag_cat l1 (frag_star (by rw [h.f16]) (by rw [h.f16]) (by rw [h.f16]) (frag_cat (frag_chr tk ho hx h.f9) l2) (fun v h => cat_ne one_ne v h))
 have b1 : Frag E t 17 Bracket 25 := frag_cat (frag_chr tk ho hx h.f17) (frag_cat (frag_cat (frag_cls tk ho hx h.f18 cls_hcl) (frag_star (by rw [h.f19]) (by rw [h.f19]) (by rw [h.f19]) (frag_cls tk ho hx h.f18 cls_hcl) one_ne)) (frag_chr tk ho hx h.f20))
 have h1 : Frag E t 21 Host 25 := frag_alt (by rw [h.f21]) (by rw [h.f21]) (by rw [h.f21]) n1 b1
 exact frag_cat h1 (frag_opt (by rw [h.f25]) (by rw [h.f25]) (by rw [h.f25]) (frag_cat (frag_chr tk ho hx h.f22) (frag_cat (frag_cls tk ho hx h.f23 cls_dig) (frag_star (by rw [h.f24]) (by rw [h.f24]) (by rw [h.f24]) (frag_cls tk ho hx h.f23 cls_dig) one_ne))))

omit tk ho hx in
structure TagAt (E : Env) : Prop where
 first : E.prog 57 = ⟨7, 311, 0, [48, 57, 65, 90, 95, 95, 97, 122]⟩
 more : ∀ j, j < 126 → E.prog (58 + j) = ⟨7, 310 - j, 0, [45, 46, 48, 57, 65, 90, 95, 95, 97, 122]⟩
 last : E.prog 184 = ⟨7, 312, 0, [45, 46, 48, 57, 65, 90, 95, 95, 97, 122]⟩
 alts : ∀ j, j < 127 → E.prog (311 - j) = ⟨0, 58 + j, 312, []⟩

theorem tag_frag (h : TagAt E) : Frag E t 57 Tag 312 := by
 have key : ∀ k, k ≤ 126 → Frag E t (185 + k) (Upto (One tch) (k + 1)) 312 := by
  intro k
  induction k with
  | zero =>
   intro _
   have ha := h.alts 126 (by omega)
   have : Frag E t 184 (Cat (One tch) (Upto (One tch) 0)) 312 := frag_cat (frag_cls tk ho hx h.last cls_tch) (frag_nil 312)
   exact frag_opt (a := 185) (by rw [show (185 : Nat) = 311 - 126 by omega, ha]) (by rw [show (185 : Nat) = 311 - 126 by omega, ha]) (by rw [show (185 : Nat) = 311 - 126 by omega, ha]) this
  | succ k ih =>
   intro hk
   have ha := h.alts (125 - k) (by omega)
   have hm := h.more (125 - k) (by omega)
   rw [show 311 - (125 - k) = 185 + (k + 1) by omega] at ha
   rw [show 310 - (125 - k) = 185 + k by omega] at hm
   exact frag_opt (by rw [ha]) (by rw [ha]) (by rw [ha]) (frag_cat (frag_cls tk ho hx hm cls_tch) (ih (by omega)))
 exact frag_cat (frag_cls tk ho hx h.first cls_wrd) (key 126 (Nat.le_refl _))

omit tk ho hx in
structure DigAt (E : Env) : Prop where
 f316 : E.prog 316 = ⟨7, 318, 0, [65, 90, 97, 122]⟩
 f317 : E.prog 317 = ⟨7, 318, 0, [48, 57, 65, 90, 97, 122]⟩
 f318 : E.prog 318 = ⟨0, 317, 323, []⟩
 f319 : E.prog 319 = ⟨7, 320, 0, [43, 43, 45, 46, 95, 95]⟩
 f320 : E.prog 320 = ⟨7, 322, 0, [65, 90, 97, 122]⟩
 f321 : E.prog 321 = ⟨7, 322, 0, [48, 57, 65, 90, 97, 122]⟩
 f322 : E.prog 322 = ⟨0, 321, 323, []⟩
 f323 : E.prog 323 = ⟨0, 319, 324, []⟩
 f324 : E.prog 324 = ⟨8, 325, 0, [58]⟩
 hexs : ∀ j, j < 32 → E.prog (325 + j) = ⟨7, 326 + j, 0, [48, 57, 65, 70, 97, 102]⟩
 f357 : E.prog 357 = ⟨0, 356, 358, []⟩

omit tk ho hx in
def Dig : List Nat → Prop := Cat Alg (Cat (One (is 58)) (Cat (Times (One hex) 31) (Plus (One hex))))

theorem dig_frag (h : DigAt E) : Frag E t 316 Dig 358 := by
 have a1 : Frag E t 316 AlgW 323 := frag_cat (frag_cls tk ho hx h.f316 cls_ltr) (frag_star (by rw [h.f318]) (by rw [h.f318]) (by rw [h.f318]) (frag_cls tk ho hx h.f317 cls_aln) one_ne)
 have a2 : Frag E t 320 AlgW 323 := frag_cat (frag_cls tk ho hx h.f320 cls_ltr) (frag_star (by rw [h.f322]) (by rw [h.f322]) (by rw [h.f322]) (frag_cls tk ho hx h.f321 cls_aln) one_ne)
 have a3 : Frag E t 316 Alg 324 := frag_cat a1 (frag_star (by rw [h.f323]) (by rw [h.f323]) (by rw [h.f323]) (frag_cat (frag_cls tk ho hx h.f319 cls_asp) a2) (fun v h => cat_ne one_ne v h))
 have key : ∀ k, k ≤ 31 → Frag E t (356 - k) (Times (One hex) k) 356 := by
  intro k
  induction k with
  | zero => intro _; exact frag_nil 356
  | succ k ih =>
   intro hk
   have hh := h.hexs (30 - k) (by omega)
   rw [show 325 + (30 - k) = 356 - (k + 1) by omega, show 326 + (30 - k) = 356 - k by omega] at hh
   exact frag_cat (frag_cls tk ho hx hh cls_hex) (ih (by omega))
 have h31 := h.hexs 31 (by omega)
 exact frag_cat a3 (frag_cat (frag_chr tk ho hx h.f324) (frag_cat (key 31 (Nat.le_refl _)) (frag_cat (frag_cls tk ho hx h31 cls_hex) (frag_star (by rw [h.f357]) (by rw [h.f357]) (by rw [h.f357]) (frag_cls tk ho hx h31 cls_hex) one_ne))))
end

end Go.Proofs.YtkbmigfkclnlaaaGreatDoor
