/-
FnCronTextAfterRoads: the calendar, the schedules, their texts and the zones, part 27 of 34.
-/
import Derived.Laws.FloatArith
import Derived.Test.YtopcjlimjkfoiaaGreatDoorV22
import Derived.Test.YtopcjlimjkfoiaaGreatDoorV17
import Derived.Test.YtopcjlimjkfoiaaGreatDoorV11
import Derived.Deep.CutBlock
import Derived.Deep.DeepCutAuto
set_option linter.all false
namespace Go.Proofs.YtopcjlimjkfoiaaGreatDoor

def dbl (n : Nat) : Nat := (1022 + n.log2) * 2 ^ 52 + n * 2 ^ (52 - n.log2)

theorem log2_shift (n K : Nat) (h : 0 < n) : (n * 2 ^ K).log2 = n.log2 + K := by
  have hne : n ≠ 0 := by omega
  have h1 := (Nat.log2_eq_iff hne).1 rfl
  have hp : 0 < 2 ^ K := Nat.two_pow_pos K
  refine (Nat.log2_eq_iff (Nat.mul_ne_zero hne (by omega))).2 ⟨?_, ?_⟩
  · rw [Nat.pow_add]
    exact Nat.mul_le_mul_right _ h1.1
  · rw [show n.log2 + K + 1 = (n.log2 + 1) + K from by omega, Nat.pow_add]
    exact Nat.mul_lt_mul_of_pos_right h1.2 hp

theorem log2_53 (n : Nat) (h : 0 < n) (hn : n < 2 ^ 53) : n.log2 ≤ 52 := by
  have := (Nat.log2_lt (n := n) (k := 53) (by omega)).2 hn
  omega

theorem cut_exact (way : Ieee.Toward) (m d : Nat) (h : 0 < m) (hd : 2 ^ d ∣ m) : way.cut false m d = m / 2 ^ d := by
  have hle : d ≤ m.log2 + 2 := by
    have h1 := Nat.le_of_dvd h hd
    have h2 := (Nat.le_log2 (n := m) (k := d) (by omega)).2 h1
    omega
  unfold Ieee.Toward.cut
  rw [Nat.min_eq_left hle, Nat.one_shiftLeft]
  have hr : m % 2 ^ d = 0 := Nat.mod_eq_zero_of_dvd hd
  have hp : 0 < 2 ^ d := Nat.two_pow_pos d
  cases way <;> simp [hr, show ¬ (2 ^ d = 0) from by omega]

theorem near (n K : Nat) (h : 0 < n) (hn : n < 2 ^ 53) : Ieee.double.nearest false (n * 2 ^ K) (-(K : Int)) = dbl n := by
  have hl := log2_53 n h hn
  have hne : n ≠ 0 := by omega
  have hp : 0 < 2 ^ K := Nat.two_pow_pos K
  have h1 := (Nat.log2_eq_iff hne).1 rfl
  have hlast : max (-(K : Int) + ((n * 2 ^ K).log2 : Nat) - (Ieee.double.fractionBits : Nat)) Ieee.double.leastPlace = (n.log2 : Int) - 52 := by
    rw [log2_shift n K h]
    have e1 : Ieee.double.leastPlace = -1074 := by decide
    have e2 : Ieee.double.fractionBits = 52 := rfl
    rw [e1, e2]
    omega
  have hkept : Ieee.Toward.even.cut false ((n * 2 ^ K) <<< (-(K : Int) - ((n.log2 : Int) - 52)).toNat) (((n.log2 : Int) - 52) - -(K : Int)).toNat = n * 2 ^ (52 - n.log2) := by
    rcases Nat.lt_or_ge 52 (n.log2 + K) with hk | hk
    · rw [show (-(K : Int) - ((n.log2 : Int) - 52)).toNat = 0 from by omega, show (((n.log2 : Int) - 52) - -(K : Int)).toNat = n.log2 + K - 52 from by omega, Nat.shiftLeft_zero]
      have hs : n * 2 ^ K = n * 2 ^ (52 - n.log2) * 2 ^ (n.log2 + K - 52) := by
        rw [Nat.mul_assoc, ← Nat.pow_add, show 52 - n.log2 + (n.log2 + K - 52) = K from by omega]
      rw [cut_exact _ _ _ (Nat.mul_pos h hp) ⟨n * 2 ^ (52 - n.log2), by rw [hs, Nat.mul_comm]⟩, hs, Nat.mul_div_cancel _ (Nat.two_pow_pos _)]
    · rw [show (-(K : Int) - ((n.log2 : Int) - 52)).toNat = 52 - n.log2 - K from by omega, show (((n.log2 : Int) - 52) - -(K : Int)).toNat = 0 from by omega, Nat.shiftLeft_eq]
      have hs : n * 2 ^ K * 2 ^ (52 - n.log2 - K) = n * 2 ^ (52 - n.log2) := by
        rw [Nat.mul_assoc, ← Nat.pow_add, show K + (52 - n.log2 - K) = 52 - n.log2 from by omega]
      rw [hs, cut_exact _ _ _ (Nat.mul_pos h (Nat.two_pow_pos _)) (by simp), Nat.pow_zero, Nat.div_one]
  have hb : n * 2 ^ (52 - n.log2) < 2 ^ 53 := by
    have := Nat.mul_lt_mul_of_pos_right h1.2 (Nat.two_pow_pos (52 - n.log2))
    rw [← Nat.pow_add, show n.log2 + 1 + (52 - n.log2) = 53 from by omega] at this
    exact this
  unfold Ieee.Format.nearest
  rw [if_neg (Nat.mul_ne_zero hne (by omega))]
  simp only [hlast, hkept]
  have e1 : Ieee.double.leastPlace = -1074 := by decide
  have e3 : Ieee.double.binade = 2 ^ 52 := rfl
  have e4 : Ieee.double.infRung = 2047 * 2 ^ 52 := by decide
  rw [e1, e3, e4, show ((n.log2 : Int) - 52 - -1074).toNat = 1022 + n.log2 from by omega]
  have hm : (1022 + n.log2) * 2 ^ 52 ≤ 1074 * 2 ^ 52 := Nat.mul_le_mul_right _ (by omega)
  have hm2 : (1022 + n.log2) * 2 ^ 52 + n * 2 ^ (52 - n.log2) ≤ 2047 * 2 ^ 52 :=
    Nat.le_trans (Nat.add_le_add hm (Nat.le_of_lt hb)) (by decide)
  rw [Nat.min_eq_left hm2]
  unfold Ieee.Format.word dbl
  exact if_neg Bool.false_ne_true

theorem near_zero (n : Nat) (h : 0 < n) (hn : n < 2 ^ 53) : floatOfInt .f64 (n : Int) = dbl n := by
  have := near n 0 h hn
  rw [Nat.pow_zero, Nat.mul_one] at this
  rw [← this]
  unfold floatOfInt
  have e : FloatKind.f64.encode (.number (decide ((n : Int) < 0)) (n : Int).natAbs 0) = Ieee.double.nearest (decide ((n : Int) < 0)) (n : Int).natAbs 0 := rfl
  first | rw [e] | (show FloatKind.f64.encode (.number (decide ((n : Int) < 0)) (n : Int).natAbs 0) = _; rw [e])
  rw [show decide ((n : Int) < 0) = false from decide_eq_false (by omega), Int.natAbs_natCast]
  rfl

theorem dbl_read (n : Nat) (h : 0 < n) (hn : n < 2 ^ 53) : Ieee.double.read (dbl n) = .number false (n * 2 ^ (52 - n.log2)) (-((52 - n.log2 : Nat) : Int)) := by
  have hl := log2_53 n h hn
  have hne : n ≠ 0 := by omega
  have h1 := (Nat.log2_eq_iff hne).1 rfl
  have ha : 2 ^ 52 ≤ n * 2 ^ (52 - n.log2) := by
    have := Nat.mul_le_mul_right (2 ^ (52 - n.log2)) h1.1
    rw [← Nat.pow_add, show n.log2 + (52 - n.log2) = 52 from by omega] at this
    exact this
  have hb : n * 2 ^ (52 - n.log2) < 2 ^ 53 := by
    have := Nat.mul_lt_mul_of_pos_right h1.2 (Nat.two_pow_pos (52 - n.log2))
    rw [← Nat.pow_add, show n.log2 + 1 + (52 - n.log2) = 53 from by omega] at this
    exact this
  have e0 : Ieee.double.signWeight = 2 ^ 63 := rfl
  have e1 : Ieee.double.leastPlace = -1074 := by decide
  have e3 : Ieee.double.binade = 2 ^ 52 := rfl
  have e4 : Ieee.double.infRung = 2047 * 2 ^ 52 := by decide
  generalize hA : n * 2 ^ (52 - n.log2) = A at ha hb
  generalize hL : n.log2 = L at hl
  have hd : dbl n = (1022 + L) * 2 ^ 52 + A := by unfold dbl; rw [hA, hL]
  have hq : dbl n / 2 ^ 52 = 1023 + L := by omega
  have hr : dbl n % 2 ^ 52 = A - 2 ^ 52 := by omega
  have hlt : dbl n < 2 ^ 63 := by omega
  unfold Ieee.Format.read
  rw [e0, Nat.div_eq_of_lt hlt, Nat.mod_eq_of_lt hlt, e3, e4, e1]
  simp only
  rw [if_neg (by omega), if_pos (by omega), hq, hr]
  have e5 : 2 ^ 52 + (A - 2 ^ 52) = A := by omega
  have e6 : (-1074 : Int) + ((1023 + L - 1 : Nat) : Int) = -((52 - L : Nat) : Int) := by omega
  rw [e5, e6]
  rfl

theorem dbl_mul (a b : Nat) (ha : 0 < a) (hb : 0 < b) (h : a * b < 2 ^ 53) : floatBits .mul .f64 (dbl a) (dbl b) = some (dbl (a * b)) := by
  have ha' : a < 2 ^ 53 := Nat.lt_of_le_of_lt (Nat.le_mul_of_pos_right a hb) h
  have hb' : b < 2 ^ 53 := Nat.lt_of_le_of_lt (Nat.le_mul_of_pos_left b ha) h
  show ((Ieee.double.read (dbl a)).product (Ieee.double.read (dbl b))).map Ieee.double.write = _
  rw [dbl_read a ha ha', dbl_read b hb hb']
  have hs : a * 2 ^ (52 - a.log2) * (b * 2 ^ (52 - b.log2)) = a * b * 2 ^ ((52 - a.log2) + (52 - b.log2)) := by
    rw [Nat.pow_add, Nat.mul_mul_mul_comm]
  have hn := near (a * b) ((52 - a.log2) + (52 - b.log2)) (Nat.mul_pos ha hb) h
  simp only [Ieee.Datum.product, Option.map_some, Ieee.Format.write, Bool.xor_false, Bool.bne_false, hs]
  rw [show -((52 - a.log2 : Nat) : Int) + -((52 - b.log2 : Nat) : Int) = -(((52 - a.log2) + (52 - b.log2) : Nat) : Int) from by omega, ← hn]

theorem dbl_div (b c : Nat) (hb : 0 < b) (hc : 0 < c) (h : b * c < 2 ^ 53) : floatBits .quo .f64 (dbl (b * c)) (dbl b) = some (dbl c) := by
  have hc' : c < 2 ^ 53 := Nat.lt_of_le_of_lt (Nat.le_mul_of_pos_left c hb) h
  have hb' : b < 2 ^ 53 := Nat.lt_of_le_of_lt (Nat.le_mul_of_pos_right b hc) h
  have ha : 0 < b * c := Nat.mul_pos hb hc
  have hla := log2_53 _ ha h
  have hlb := log2_53 _ hb hb'
  show ((Ieee.double.read (dbl (b * c))).quotient (52 + 2) (Ieee.double.read (dbl b))).map Ieee.double.write = _
  rw [dbl_read _ ha h, dbl_read b hb hb']
  have l1 : (b * c * 2 ^ (52 - (b * c).log2)).log2 = 52 := by rw [log2_shift _ _ ha]; omega
  have l2 : (b * 2 ^ (52 - b.log2)).log2 = 52 := by rw [log2_shift _ _ hb]; omega
  have hB : 0 < b * 2 ^ (52 - b.log2) := Nat.mul_pos hb (Nat.two_pow_pos _)
  have hdiv : b * c * 2 ^ (52 - (b * c).log2) * 2 ^ 54 = b * 2 ^ (52 - b.log2) * (c * 2 ^ (54 + b.log2 - (b * c).log2)) := by
    rw [Nat.mul_assoc (b * c), ← Nat.pow_add, Nat.mul_mul_mul_comm, ← Nat.pow_add]
    congr 2
    omega
  have hn := near c (55 + b.log2 - (b * c).log2) hc hc'
  simp only [Ieee.Datum.quotient, if_neg (Nat.pos_iff_ne_zero.1 hB), Option.map_some, Ieee.Format.write, Bool.xor_false, Bool.bne_false]
  rw [l1, l2, show 52 + 2 + 52 - 52 = 54 from rfl, Nat.shiftLeft_eq, hdiv, Nat.mul_div_cancel_left _ hB, Nat.mul_mod_right]
  rw [show (2 * (c * 2 ^ (54 + b.log2 - (b * c).log2)) + ((0 : Nat) != 0).toNat) = c * 2 ^ (55 + b.log2 - (b * c).log2) from by
    rw [show 55 + b.log2 - (b * c).log2 = (54 + b.log2 - (b * c).log2) + 1 from by omega, Nat.pow_succ]
    simp only [bne_self_eq_false, Bool.toNat_false]
    rw [Nat.add_zero, Nat.mul_comm 2, Nat.mul_assoc]]
  rw [show -((52 - (b * c).log2 : Nat) : Int) - -((52 - b.log2 : Nat) : Int) - ((54 : Nat) : Int) - 1 = -((55 + b.log2 - (b * c).log2 : Nat) : Int) from by omega, ← hn]

theorem dbl_cut (n : Nat) (h : 0 < n) (hn : n < 2 ^ 53) : (Ieee.double.read (dbl n)).toInt .zero = some (n : Int) := by
  rw [dbl_read n h hn]
  have hl := log2_53 n h hn
  simp only [Ieee.Datum.toInt, Ieee.Datum.integral]
  rw [show (-((52 - n.log2 : Nat) : Int)).toNat = 0 from by omega, show (- -((52 - n.log2 : Nat) : Int)).toNat = 52 - n.log2 from by omega, Nat.shiftLeft_zero,
    cut_exact _ _ _ (Nat.mul_pos h (Nat.two_pow_pos _)) (Nat.dvd_mul_left _ _), Nat.mul_div_cancel _ (Nat.two_pow_pos _)]
  simp [Ieee.signed]

theorem toInt_u64 (b n : Nat) (h : (Ieee.double.read b).toInt .zero = some (n : Int)) (hn : n < 2 ^ 53) : floatToIntVal .f64 b .u64 = some (n : Int) := by
  unfold floatToIntVal FloatKind.decode FloatKind.format
  simp only [h]
  have h1 : IntKind.u64.min = 0 := rfl
  have h2 : IntKind.u64.max = 18446744073709551615 := by decide
  rw [if_pos ⟨by rw [h1]; omega, by rw [h2]; omega⟩]

theorem dbl_int (n : Nat) (h : 0 < n) (hn : n < 2 ^ 53) : floatToIntVal .f64 (dbl n) .u64 = some (n : Int) := toInt_u64 _ n (dbl_cut n h hn) hn

theorem dbl_one : dbl 1 = 4607182418800017408 := by decide
theorem dbl_ten : dbl 10 = 4621819117588971520 := by decide

end Go.Proofs.YtopcjlimjkfoiaaGreatDoor
namespace Go.Proofs.YtopcjlimjkfoiaaGreatDoor
open Go.RowKit
attribute [local go_sem] Ext.cell Ext.frozen Ext.lt Ext.lt_add Ext.cell2 Ext.frozen2

def unitT : List (ByteArray × Nat) := [(⟨#[110, 115]⟩, 1), (⟨#[117, 115]⟩, 1000), (⟨#[194, 181, 115]⟩, 1000), (⟨#[206, 188, 115]⟩, 1000), (⟨#[109, 115]⟩, 1000000), (⟨#[115]⟩, 1000000000), (⟨#[109]⟩, 60000000000), (⟨#[104]⟩, 3600000000000)]

theorem unit_look (l : List Nat) (h : 0 < (unitOf l).1) : look unitT l = some (unitOf l).1 := by
  revert h
  unfold unitOf
  repeat' split
  all_goals first | (rename_i h; rcases h with h | h | h <;> subst h <;> intro _ <;> decide) | (rename_i h; subst h; intro _; decide) | (intro h; exact absurd h (by decide))

theorem look_unit {w : World} {M : Nat} {T : List (ByteArray × Nat)} (h : Tab w M T) (s : ByteArray) (v : Nat) (hv : look T (nats s) = some v) :
    (Instr.lookup 173 (.map (some M)) (.string s) true).run Tryz.prog w = .ok (.tuple #[.int .u64 (v : Nat), .bool true]) w := by
  obtain ⟨es, c, h1, h2⟩ := h
  have h9 : Tryz.prog.underlying 9 = some .string := by kernel_rfl
  have hm : Tryz.prog.underlying 173 = some (.map 9 44) := by kernel_rfl
  have hf := find_tab s T es.toList 0 h2
  have hck : ∀ b, (Instr.checkKey b 10000 9 (.string s)).run Tryz.prog w = .ok () w := fun b => Go.MapKept.run_checkKey h9 (by trivial) b 9999
  obtain ⟨j, hj⟩ := hf.1 v hv
  simp [Instr.lookup, Sem.run_bind, run_underlying hm, Go.MapKept.run_getObj_map h1, hck, Go.MapKept.run_findKey h9 hj]

structure UnIn (w0 w : World) (M : Nat) (T : List (ByteArray × Nat)) : Prop where
  tab : Tab w M T
  ge : w0.heap.size ≤ M
  up : ∃ x : Ext w0, w = x.now

section
variable {ops : Array Oper} {rest : List Oper} {o : Oper} {a : Act} {w w0 : World} {Q : Exit → Act → World → Prop}
theorem wpList_unit (hg : o.guard = none) (m k v : Operand) (ho : o.op = .insert 173 m k v) (M : Nat) (T : List (ByteArray × Nat)) (s : ByteArray) (n : Nat) (hm : a.eval m = .map (some M)) (hk : a.eval k = .string s) (hv : a.eval v = .int .u64 (n : Nat))
    (hT : UnIn w0 w M T) (hn : look T (nats s) = none) (h : ∀ w', UnIn w0 w' M (T ++ [(s, n)]) → wpList Tryz.prog ops Q rest (a.put o.dst undef) w') : wpList Tryz.prog ops Q (o :: rest) a w := by
  have hl := hT.tab.lt
  obtain ⟨es, c, h1, h2⟩ := hT.tab
  have h9 : Tryz.prog.underlying 9 = some .string := by kernel_rfl
  have hmt : Tryz.prog.underlying 173 = some (.map 9 44) := by kernel_rfl
  have hck : ∀ b, (Instr.checkKey b 10000 9 (.string s)).run Tryz.prog w = .ok () w := fun b => Go.MapKept.run_checkKey h9 (by trivial) b 9999
  have hf := (find_tab s T es.toList 0 h2).2 hn
  refine wpList_plain hg fun K hK => ?_
  unfold Oper.wp execOp
  simp only [ho, hm, hk, hv]
  simp [Instr.mapUpdate, Sem.run_bind, run_underlying hmt, Go.MapKept.run_getObj_map h1, hck, Go.MapKept.run_findKey h9 hf, Go.MapKept.run_setObj_map _ h1]
  refine hK _ _ (h _ ⟨⟨_, _, by rw [Array.getElem?_setIfInBounds_self_of_lt hl], by simp [h2]⟩, hT.ge, ?_⟩)
  obtain ⟨x, rfl⟩ := hT.up
  refine Ext.of ⟨x.below.os, x.below.tape, x.below.output, by simpa using x.below.size, fun i hi => ?_⟩
  have hge := hT.ge
  rw [Array.getElem?_setIfInBounds_ne (by omega)]
  exact x.below.block i hi
end

set_option maxRecDepth 1000000 in
set_option maxHeartbeats 4000000 in
theorem units_any (w : World) : Calls Tryz.prog 97 #[] w fun e w' => (∃ M, e = .returned (.map (some M)) ∧ Tab w' M unitT) ∧ ∃ y : Ext w, w' = y.now := by
  have hmk : ∀ W, (Instr.makeMap 173 none).run Tryz.prog W = .ok (.map (some W.heap.size)) (W.alloc (.map #[] 0)) := fun _ => rfl
  have H0 := Lib.hid (show UnIn w (w.alloc (.map #[] 0)) w.heap.size [] from
    ⟨⟨#[], 0, heap_alloc_new w _, rfl⟩, Nat.le_refl _, ⟨Ext.one _ _, rfl⟩⟩)
  go_enter Tryz.func97, Tryz.ntmps97
  go_wp2_with (first
    | ((with_reducible refine at_insert 173 ?_); (refine wpList_unit rfl _ _ _ rfl w.heap.size [] ⟨#[110, 115]⟩ 1 rfl rfl rfl H0.out (by decide) ?_); intro w1 h1; have H1 := Lib.hid h1; clear h1)
    | ((with_reducible refine at_insert 173 ?_); (refine wpList_unit rfl _ _ _ rfl w.heap.size [(⟨#[110, 115]⟩, 1)] ⟨#[117, 115]⟩ 1000 rfl rfl rfl H1.out (by decide) ?_); intro w2 h2; have H2 := Lib.hid h2; clear h2)
    | ((with_reducible refine at_insert 173 ?_); (refine wpList_unit rfl _ _ _ rfl w.heap.size [(⟨#[110, 115]⟩, 1), (⟨#[117, 115]⟩, 1000)] ⟨#[194, 181, 115]⟩ 1000 rfl rfl rfl H2.out (by decide) ?_); intro w3 h3; have H3 := Lib.hid h3; clear h3)
    | ((with_reducible refine at_insert 173 ?_); (refine wpList_unit rfl _ _ _ rfl w.heap.size [(⟨#[110, 115]⟩, 1), (⟨#[117, 115]⟩, 1000), (⟨#[194, 181, 115]⟩, 1000)] ⟨#[206, 188, 115]⟩ 1000 rfl rfl rfl H3.out (by decide) ?_); intro w4 h4; have H4 := Lib.hid h4; clear h4)
    | ((with_reducible refine at_insert 173 ?_); (refine wpList_unit rfl _ _ _ rfl w.heap.size [(⟨#[110, 115]⟩, 1), (⟨#[117, 115]⟩, 1000), (⟨#[194, 181, 115]⟩, 1000), (⟨#[206, 188, 115]⟩, 1000)] ⟨#[109, 115]⟩ 1000000 rfl rfl rfl H4.out (by decide) ?_); intro w5 h5; have H5 := Lib.hid h5; clear h5)
    | ((with_reducible refine at_insert 173 ?_); (refine wpList_unit rfl _ _ _ rfl w.heap.size [(⟨#[110, 115]⟩, 1), (⟨#[117, 115]⟩, 1000), (⟨#[194, 181, 115]⟩, 1000), (⟨#[206, 188, 115]⟩, 1000), (⟨#[109, 115]⟩, 1000000)] ⟨#[115]⟩ 1000000000 rfl rfl rfl H5.out (by decide) ?_); intro w6 h6; have H6 := Lib.hid h6; clear h6)
    | ((with_reducible refine at_insert 173 ?_); (refine wpList_unit rfl _ _ _ rfl w.heap.size [(⟨#[110, 115]⟩, 1), (⟨#[117, 115]⟩, 1000), (⟨#[194, 181, 115]⟩, 1000), (⟨#[206, 188, 115]⟩, 1000), (⟨#[109, 115]⟩, 1000000), (⟨#[115]⟩, 1000000000)] ⟨#[109]⟩ 60000000000 rfl rfl rfl H6.out (by decide) ?_); intro w7 h7; have H7 := Lib.hid h7; clear h7)
    | ((with_reducible refine at_insert 173 ?_); (refine wpList_unit rfl _ _ _ rfl w.heap.size [(⟨#[110, 115]⟩, 1), (⟨#[117, 115]⟩, 1000), (⟨#[194, 181, 115]⟩, 1000), (⟨#[206, 188, 115]⟩, 1000), (⟨#[109, 115]⟩, 1000000), (⟨#[115]⟩, 1000000000), (⟨#[109]⟩, 60000000000)] ⟨#[104]⟩ 3600000000000 rfl rfl rfl H7.out (by decide) ?_); intro w8 h8; have H8 := Lib.hid h8; clear h8))
  go_ret
  exact ⟨⟨_, rfl, H8.out.tab⟩, H8.out.up⟩

theorem u64_mul (T : TypeId) (a b : Nat) (h : a * b < 18446744073709551616) (W : World) : (binOp .mul T (.int .u64 (a : Nat)) (.int .u64 (b : Nat))).run Tryz.prog W = .ok (.int .u64 ((a * b : Nat) : Int)) W := by
  have e : (binOp .mul T (.int .u64 (a : Nat)) (.int .u64 (b : Nat))).run Tryz.prog W = .ok (.int .u64 (IntKind.u64.wrap ((a : Int) * (b : Int)))) W := rfl
  have e2 : IntKind.u64.wrap ((a : Int) * (b : Int)) = ((a : Int) * (b : Int)) % 18446744073709551616 := rfl
  rw [e, e2]
  rw [← Int.natCast_mul, Int.emod_eq_of_lt (by omega) (by omega)]
theorem u64_add (T : TypeId) (a b : Nat) (h : a + b < 18446744073709551616) (W : World) : (binOp .add T (.int .u64 (a : Nat)) (.int .u64 (b : Nat))).run Tryz.prog W = .ok (.int .u64 ((a + b : Nat) : Int)) W := by
  have e : (binOp .add T (.int .u64 (a : Nat)) (.int .u64 (b : Nat))).run Tryz.prog W = .ok (.int .u64 (IntKind.u64.wrap ((a : Int) + (b : Int)))) W := rfl
  have e2 : IntKind.u64.wrap ((a : Int) + (b : Int)) = ((a : Int) + (b : Int)) % 18446744073709551616 := rfl
  rw [e, e2, Int.emod_eq_of_lt (by omega) (by omega)]
  rfl
theorem u64_sub (T : TypeId) (a b : Nat) (hb : b ≤ a) (h : a < 18446744073709551616) (W : World) : (binOp .sub T (.int .u64 (a : Nat)) (.int .u64 (b : Nat))).run Tryz.prog W = .ok (.int .u64 ((a - b : Nat) : Int)) W := by
  have e : (binOp .sub T (.int .u64 (a : Nat)) (.int .u64 (b : Nat))).run Tryz.prog W = .ok (.int .u64 (IntKind.u64.wrap ((a : Int) - (b : Int)))) W := rfl
  have e2 : IntKind.u64.wrap ((a : Int) - (b : Int)) = ((a : Int) - (b : Int)) % 18446744073709551616 := rfl
  rw [e, e2, Int.emod_eq_of_lt (by omega) (by omega), ← Int.natCast_sub hb]

theorem dig_u8 (x : UInt8) (h : dig x.toNat = true) : (48 : Int) ≤ (x.toNat : Int) ∧ (x.toNat : Int) ≤ 57 := by
  have := dig_iff.1 h
  omega

set_option maxRecDepth 1000000 in
set_option maxHeartbeats 4000000 in
theorem lead_int (s : ByteArray) (k : Nat) (hs : s.size < 100000000000) (hk : k ≤ s.size) (h15 : k ≤ 15) (hD : ∀ c ∈ (nats s).take k, dig c = true) (hE : k < s.size → dig ((nats s).getD k 0) = false) (w : World) :
    Calls Tryz.prog 95 #[.string s] w fun e w' => e = .returned (.tuple #[.int .u64 (num ((nats s).take k) : Nat), .string (s.extract k s.size), .nilIface]) ∧ ∃ y : Ext w, w' = y.now := by
  have HD := Lib.hid hD
  have HE := Lib.hid hE
  clear hD hE
  go_enter Tryz.func95, Tryz.ntmps95
  go_wp2_with fail
  go_loopw [2, 5] (fun t2 t5 wr => ∃ A W : Nat, t5 = .int .i64 A ∧ t2 = .int .u64 W ∧ A ≤ k ∧ W = num ((nats s).take A) ∧ wr = w) (fun _ t _ => k - (intOf t).toNat)
  case atStart => exact ⟨0, 0, rfl, rfl, Nat.zero_le _, rfl, rfl⟩
  case round =>
    obtain ⟨A, W, rfl, rfl, hA, hW, rfl⟩ := hrel
    have HW := Lib.hid hW
    clear hW
    by_cases hlt : A < k
    · have hlt2 : A < s.size := by omega
      have hlt' : (A : Int) < (s.size : Int) := by omega
      have hl : A < (nats s).length := by rw [nats_length]; exact hlt2
      have hat := Lib.hid (nats_at _ A hlt2)
      have hd : dig ((s[A]'hlt2).toNat) = true := by
        rw [← hat.out]
        refine HD.out _ ?_
        rw [List.getD_eq_getElem?_getD, List.getElem?_eq_getElem hl, Option.getD_some]
        exact List.mem_take_iff_getElem.2 ⟨A, by omega, rfl⟩
      obtain ⟨c0, c1⟩ := dig_u8 _ hd
      have hWb : W < 1000000000000000 := by
        rw [HW.out]
        exact num_lt_of (fun c hc => HD.out c (List.take_subset_take_left _ (by omega) hc)) 15 (by rw [List.length_take]; omega)
      have w0 : (W : Int) < 1000000000000000 := by omega
      have c2 : ¬ ((s[A]'hlt2).toNat : Int) < 48 := by omega
      have c3 : ¬ 57 < ((s[A]'hlt2).toNat : Int) := by omega
      have w1 : ¬ 922337203685477580 < (W : Int) := by omega
      have w2 : ¬ 9223372036854775808 < (W : Int) * 10 + ((s[A]'hlt2).toNat : Int) - 48 := by omega
      clear hWb
      go_wp2_with fail
      refine ⟨⟨A + 1, 10 * W + ((s[A]'hlt2).toNat - 48), by simp, by congr 1; omega, by omega, ?_, trivial⟩, by simp [intOf]; omega⟩
      rw [take_snoc hl, num_snoc, hat.out, HW.out]
    · have hAk : A = k := by omega
      subst hAk
      have k9 : (A : Int) ≤ (s.size : Int) := by omega
      by_cases hsz : A < s.size
      · have hlt' : (A : Int) < (s.size : Int) := by omega
        have hd : dig ((s[A]'hsz).toNat) = false := by rw [← nats_at _ A hsz]; exact HE.out hsz
        have hdd : ((s[A]'hsz).toNat : Int) < 48 ∨ 57 < ((s[A]'hsz).toNat : Int) := by
          by_cases h1 : 48 ≤ (s[A]'hsz).toNat ∧ (s[A]'hsz).toNat ≤ 57
          · rw [dig_iff.2 h1] at hd; cases hd
          · omega
        rcases hdd with c0 | c0
        · go_wp2_with fail
          refine wp_region_ext (by kernel_rfl) (by kernel_rfl) ?_
          repeat (quiet_step (fail))
          refine wpQuiet_nil ?_
          rintro w1 ⟨y1, rfl⟩
          go_wp2_with fail
          ((try simp only [Exit.inBlock, Exit.then]); refine bodyPost_ret (results_tmp3 rfl _ _ _) rfl ?_)
          exact ⟨by rw [← HW.out]; rfl, y1, rfl⟩
        · have c1 : ¬ ((s[A]'hsz).toNat : Int) < 48 := by omega
          go_wp2_with fail
          refine wp_region_ext (by kernel_rfl) (by kernel_rfl) ?_
          repeat (quiet_step (fail))
          refine wpQuiet_nil ?_
          rintro w1 ⟨y1, rfl⟩
          go_wp2_with fail
          ((try simp only [Exit.inBlock, Exit.then]); refine bodyPost_ret (results_tmp3 rfl _ _ _) rfl ?_)
          exact ⟨by rw [← HW.out]; rfl, y1, rfl⟩
      · have hlt' : ¬ (A : Int) < (s.size : Int) := by omega
        go_wp2_with fail
        refine wp_region_ext (by kernel_rfl) (by kernel_rfl) ?_
        repeat (quiet_step (fail))
        refine wpQuiet_nil ?_
        rintro w1 ⟨y1, rfl⟩
        go_wp2_with fail
        ((try simp only [Exit.inBlock, Exit.then]); refine bodyPost_ret (results_tmp3 rfl _ _ _) rfl ?_)
        exact ⟨by rw [← HW.out]; rfl, y1, rfl⟩

set_option maxRecDepth 1000000 in
set_option maxHeartbeats 4000000 in
theorem lead_frac (s : ByteArray) (k : Nat) (hs : s.size < 100000000000) (hk : k ≤ s.size) (h15 : k ≤ 11) (hD : ∀ c ∈ (nats s).take k, dig c = true) (hE : k < s.size → dig ((nats s).getD k 0) = false) (w : World) :
    Calls Tryz.prog 96 #[.string s] w fun e w' => e = .returned (.tuple #[.int .u64 (num ((nats s).take k) : Nat), .float .f64 (dbl (10 ^ k)), .string (s.extract k s.size)]) ∧ ∃ y : Ext w, w' = y.now := by
  have HD := Lib.hid hD
  have HE := Lib.hid hE
  clear hD hE
  go_enter Tryz.func96, Tryz.ntmps96
  go_wp2_with fail
  go_loopw [2, 3, 5, 6] (fun t2 t3 t5 t6 wr => ∃ A W X : Nat, t5 = .int .i64 A ∧ t2 = .int .u64 W ∧ t3 = .float .f64 X ∧ t6 = .bool false ∧ A ≤ k ∧ W = num ((nats s).take A) ∧ X = dbl (10 ^ A) ∧ wr = w) (fun _ _ t _ _ => k - (intOf t).toNat)
  case atStart => exact ⟨0, 0, _, rfl, rfl, rfl, rfl, Nat.zero_le _, rfl, dbl_one.symm, rfl⟩
  case round =>
    obtain ⟨A, W, X, rfl, rfl, rfl, rfl, hA, hW, hX, rfl⟩ := hrel
    have HX := Lib.hid hX
    clear hX
    have HW := Lib.hid hW
    clear hW
    by_cases hlt : A < k
    · have hlt2 : A < s.size := by omega
      have hlt' : (A : Int) < (s.size : Int) := by omega
      have hl : A < (nats s).length := by rw [nats_length]; exact hlt2
      have hat := Lib.hid (nats_at _ A hlt2)
      have hd : dig ((s[A]'hlt2).toNat) = true := by
        rw [← hat.out]
        refine HD.out _ ?_
        rw [List.getD_eq_getElem?_getD, List.getElem?_eq_getElem hl, Option.getD_some]
        exact List.mem_take_iff_getElem.2 ⟨A, by omega, rfl⟩
      obtain ⟨c0, c1⟩ := dig_u8 _ hd
      have hWb : W < 1000000000000000 := by
        rw [HW.out]
        exact num_lt_of (fun c hc => HD.out c (List.take_subset_take_left _ (by omega) hc)) 15 (by rw [List.length_take]; omega)
      have w0 : (W : Int) < 1000000000000000 := by omega
      have c2 : ¬ ((s[A]'hlt2).toNat : Int) < 48 := by omega
      have c3 : ¬ 57 < ((s[A]'hlt2).toNat : Int) := by omega
      have w1 : ¬ 922337203685477580 < (W : Int) := by omega
      have w2 : ¬ 9223372036854775808 < (W : Int) * 10 + ((s[A]'hlt2).toNat : Int) - 48 := by omega
      clear hWb
      have hten : 10 ^ A * 10 = 10 ^ (A + 1) := (Nat.pow_succ ..).symm
      have hp11 : (10 : Nat) ^ (A + 1) ≤ 10 ^ 11 := Nat.pow_le_pow_right (by decide) (by omega)
      have hpp : 0 < (10 : Nat) ^ A := Nat.pow_pos (by decide)
      obtain ⟨Y, hY⟩ : ∃ Y : Nat, Y = dbl (10 ^ (A + 1)) := ⟨_, rfl⟩
      have r1 : ∀ W1, (binOp .mul 167 (.float .f64 X) (.float .f64 4621819117588971520)).run Tryz.prog W1 = .ok (.float .f64 Y) W1 := fun W1 =>
        run_float_arith W1 .mul _ .f64 X _ Y (by rw [HX.out, hY, ← dbl_ten, ← hten]; exact dbl_mul _ _ hpp (by decide) (by rw [hten]; exact Nat.lt_of_le_of_lt hp11 (by decide)))
      have HY := Lib.hid hY
      clear hY hten hp11 hpp
      go_wp2_with fail
      refine ⟨⟨A + 1, 10 * W + ((s[A]'hlt2).toNat - 48), Y, by simp, by congr 1; omega, rfl, rfl, by omega, ?_, HY.out, trivial⟩, by simp [intOf]; omega⟩
      rw [take_snoc hl, num_snoc, hat.out, HW.out]
    · have hAk : A = k := by omega
      subst hAk
      have k9 : (A : Int) ≤ (s.size : Int) := by omega
      by_cases hsz : A < s.size
      · have hlt' : (A : Int) < (s.size : Int) := by omega
        have hd : dig ((s[A]'hsz).toNat) = false := by rw [← nats_at _ A hsz]; exact HE.out hsz
        have hdd : ((s[A]'hsz).toNat : Int) < 48 ∨ 57 < ((s[A]'hsz).toNat : Int) := by
          by_cases h1 : 48 ≤ (s[A]'hsz).toNat ∧ (s[A]'hsz).toNat ≤ 57
          · rw [dig_iff.2 h1] at hd; cases hd
          · omega
        rcases hdd with c0 | c0
        · go_wp2_with fail
          refine wp_region_ext (by kernel_rfl) (by kernel_rfl) ?_
          repeat (quiet_step (fail))
          refine wpQuiet_nil ?_
          rintro w1 ⟨y1, rfl⟩
          go_wp2_with fail
          ((try simp only [Exit.inBlock, Exit.then]); refine bodyPost_ret (results_tmp3 rfl _ _ _) rfl ?_)
          exact ⟨by rw [← HW.out, ← HX.out]; rfl, y1, rfl⟩
        · have c1 : ¬ ((s[A]'hsz).toNat : Int) < 48 := by omega
          go_wp2_with fail
          refine wp_region_ext (by kernel_rfl) (by kernel_rfl) ?_
          repeat (quiet_step (fail))
          refine wpQuiet_nil ?_
          rintro w1 ⟨y1, rfl⟩
          go_wp2_with fail
          ((try simp only [Exit.inBlock, Exit.then]); refine bodyPost_ret (results_tmp3 rfl _ _ _) rfl ?_)
          exact ⟨by rw [← HW.out, ← HX.out]; rfl, y1, rfl⟩
      · have hlt' : ¬ (A : Int) < (s.size : Int) := by omega
        go_wp2_with fail
        refine wp_region_ext (by kernel_rfl) (by kernel_rfl) ?_
        repeat (quiet_step (fail))
        refine wpQuiet_nil ?_
        rintro w1 ⟨y1, rfl⟩
        go_wp2_with fail
        ((try simp only [Exit.inBlock, Exit.then]); refine bodyPost_ret (results_tmp3 rfl _ _ _) rfl ?_)
        exact ⟨by rw [← HW.out, ← HX.out]; rfl, y1, rfl⟩

end Go.Proofs.YtopcjlimjkfoiaaGreatDoor
namespace Go.Proofs.YtopcjlimjkfoiaaGreatDoor
open Go.RowKit
attribute [local go_sem] Ext.cell Ext.frozen Ext.lt Ext.lt_add Ext.cell2 Ext.frozen2

theorem unit_ten (l : List Nat) : 10 ^ (unitOf l).2 ∣ (unitOf l).1 ∧ (unitOf l).2 ≤ 11 ∧ (unitOf l).1 ≤ 3600000000000 := by
  unfold unitOf
  repeat (split; · decide)
  decide

structure Parts (L rest D P F U : List Nat) (n u c : Nat) : Prop where
  eq : L = D ++ (P ++ (F ++ (U ++ rest)))
  dD : ∀ x ∈ D, dig x = true
  lD : D.length ≤ 15
  p : (P = [] ∧ F = []) ∨ P = [46]
  dF : ∀ x ∈ F, dig x = true
  lF : F.length ≤ 11
  some : 0 < D.length + F.length
  nU : U ≠ []
  dU : ∀ x ∈ U, dig x = false ∧ x ≠ 46
  rest : ∀ x r, rest = x :: r → dig x = true ∨ x = 46
  lu : look unitT U = Option.some u
  u0 : 0 < u
  u1 : u ≤ 3600000000000
  uc : u = 10 ^ F.length * c
  c0 : 0 < c
  v : num D ≤ 4611686018427387904 / u - 1
  n : n = num D * u + num F * c

theorem term_parts {L rest : List Nat} {n : Nat} (h : TermFine L n rest) : ∃ D P F U u c, Parts L rest D P F U n u c := by
  obtain ⟨D, P, F, U, u, d, h1, h2, h3, h4, h5, h6, h7, h8, h9, h10, h11, h12, h13⟩ := h
  obtain ⟨t1, t2, t3⟩ := unit_ten U
  have hl := unit_look U (by rw [h9]; exact h10)
  rw [h9] at t1 t2 t3 hl
  have t1' : 10 ^ d ∣ u := t1
  have t2' : d ≤ 11 := t2
  have t3' : u ≤ 3600000000000 := t3
  obtain ⟨c, hc⟩ := Nat.dvd_trans (Nat.pow_dvd_pow 10 h11) t1'
  have hp : 0 < 10 ^ F.length := Nat.pow_pos (by decide)
  refine ⟨D, P, F, U, u, c, h1, h2, h3, h4, h5, by omega, h6, ?_, h7, h8, hl, h10, t3', hc, ?_, h12, ?_⟩
  · intro e
    rw [e] at h9
    have : unitOf [] = (0, 0) := by decide
    rw [this] at h9
    injection h9 with h9 _
    omega
  · rcases Nat.eq_zero_or_pos c with e | e
    · rw [e, Nat.mul_zero] at hc; omega
    · exact e
  · rw [h13, hc, Nat.mul_div_cancel_left _ hp]

theorem terms_nil {m : Nat} (h : Terms [] m) : m = 0 := by
  generalize hL : ([] : List Nat) = L at h
  cases h with
  | nil => rfl
  | cons h1 h2 =>
    obtain ⟨D, P, F, U, u, c, hp⟩ := term_parts h1
    have := hp.eq
    rw [← hL] at this
    have hl := congrArg List.length this
    simp only [List.length_nil, List.length_append] at hl
    have := hp.some
    omega

theorem terms_cons {L : List Nat} {m : Nat} (h : Terms L m) (hL : L ≠ []) : ∃ n k rest, m = n + k ∧ TermFine L n rest ∧ Terms rest k := by
  cases h with
  | nil => exact absurd rfl hL
  | cons h1 h2 => exact ⟨_, _, _, rfl, h1, h2⟩

theorem getD_app (A B : List Nat) : (A ++ B).getD A.length 0 = B.getD 0 0 := by
  rw [List.getD_eq_getElem?_getD, List.getElem?_append_right (Nat.le_refl _), Nat.sub_self, ← List.getD_eq_getElem?_getD]

section
variable {L rest D P F U : List Nat} {n u c : Nat}
theorem Parts.hU (h : Parts L rest D P F U n u c) : ∃ y V, U = y :: V ∧ dig y = false ∧ y ≠ 46 := by
  obtain ⟨y, V, e⟩ := List.exists_cons_of_ne_nil h.nU
  exact ⟨y, V, e, h.dU y (e ▸ List.mem_cons_self ..)⟩
theorem Parts.endD (h : Parts L rest D P F U n u c) : dig (L.getD D.length 0) = false := by
  obtain ⟨y, V, e, e1, e2⟩ := h.hU
  rw [h.eq, getD_app]
  rcases h.p with ⟨p1, p2⟩ | p1
  · rw [p1, p2, e]; exact e1
  · rw [p1]; show dig 46 = false; decide
theorem Parts.endF (h : Parts L rest D P F U n u c) : dig ((F ++ (U ++ rest)).getD F.length 0) = false := by
  obtain ⟨y, V, e, e1, e2⟩ := h.hU
  rw [getD_app, e]
  exact e1
theorem Parts.first (h : Parts L rest D P F U n u c) : dig (L.getD 0 0) = true ∨ L.getD 0 0 = 46 := by
  cases D with
  | cons x D => exact .inl (by rw [h.eq]; exact h.dD x (List.mem_cons_self ..))
  | nil =>
    have hs := h.some
    rcases h.p with ⟨p1, p2⟩ | p1
    · rw [p2] at hs; simp at hs
    · right; rw [h.eq, p1]; rfl
end

theorem u64_quo (T : TypeId) (a b : Nat) (ha : a < 18446744073709551616) (hb : 0 < b) (W : World) : (binOp .quo T (.int .u64 (a : Nat)) (.int .u64 (b : Nat))).run Tryz.prog W = .ok (.int .u64 ((a / b : Nat) : Int)) W := by
  have hb' : ¬ (b : Int) = 0 := by omega
  have h1 : a / b ≤ a := Nat.div_le_self a b
  have e2 : IntKind.u64.wrap ((a : Int).tdiv (b : Int)) = ((a / b : Nat) : Int) := by
    have e3 : (a : Int).tdiv (b : Int) = ((a / b : Nat) : Int) := rfl
    rw [e3]
    have h2 : a / b < 18446744073709551616 := Nat.lt_of_le_of_lt h1 ha
    generalize a / b = q at h2
    have e4 : IntKind.u64.wrap ((q : Nat) : Int) = ((q : Nat) : Int) % 18446744073709551616 := rfl
    rw [e4, Int.emod_eq_of_lt (by omega) (by omega)]
  have e : binOp .quo T (.int .u64 (a : Nat)) (.int .u64 (b : Nat)) = pure (.int .u64 (IntKind.u64.wrap ((a : Int).tdiv (b : Int)))) := by
    show Op.intDiv .quo .u64 (a : Int) (b : Int) = _
    unfold Op.intDiv
    rw [if_neg (by simpa using hb')]
  rw [e, e2]
  rfl

theorem int_quo (a b : Nat) : (a : Int) / (b : Int) = ((a / b : Nat) : Int) := (Int.natCast_ediv a b).symm
theorem int_tquo (a b : Nat) : Int.tdiv (a : Int) (b : Int) = ((a / b : Nat) : Int) := rfl
theorem big_quo (u : Nat) : (9223372036854775808 : Int) / (u : Int) = ((9223372036854775808 / u : Nat) : Int) ∧ Int.tdiv (9223372036854775808 : Int) (u : Int) = ((9223372036854775808 / u : Nat) : Int) := by
  obtain ⟨a, ha⟩ : ∃ a : Nat, a = 9223372036854775808 := ⟨_, rfl⟩
  have hi : (9223372036854775808 : Int) = (a : Int) := by omega
  rw [hi, ← ha]
  exact ⟨int_quo a u, int_tquo a u⟩

theorem size_of {s : ByteArray} {l : List Nat} (h : nats s = l) : s.size = l.length := by rw [← h, nats_length]

end Go.Proofs.YtopcjlimjkfoiaaGreatDoor
