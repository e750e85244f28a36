/-
FnRefNormalSelf: the regular expressions, the digest and the reference, part 23 of 26.
-/
import Derived.Test.YtkbmigfkclnlaaaGreatDoorV22
import Derived.Test.YtkbmigfkclnlaaaGreatDoorV18
import Derived.RegionCalls
import Derived.Deep.RegionWith
import Derived.Test.YtkbmigfkclnlaaaGreatDoorV19
import Derived.Test.YtkbmigfkclnlaaaGreatDoorV04
set_option linter.all false
namespace Go.Proofs.YtkbmigfkclnlaaaGreatDoor
open Go.RowKit Go.Rx
attribute [local go_sem] Ext.cell Ext.frozen Ext.lt Ext.lt_add Ext.cell2 Ext.frozen2

theorem enters_lower : Enters 64 := fun args w => by kernel_rfl
theorem enters_hex : Enters 55 := fun args w => by kernel_rfl
theorem enters_shx : Enters 65 := fun args w => by kernel_rfl
theorem enters_tch : Enters 56 := fun args w => by kernel_rfl
theorem enters_dfx : Enters 63 := fun args w => by kernel_rfl
theorem enters_hcl : Enters 77 := fun args w => by kernel_rfl
theorem enters_anh : Enters 93 := fun args w => by kernel_rfl
theorem enters_hyp : Enters 94 := fun args w => by kernel_rfl
theorem enters_nlow : Enters 79 := fun args w => by kernel_rfl

def sepF (l : List Nat) : Bool := decide (l = [46]) || (decide (l = [95]) || (decide (l = [95, 95]) || allF (is 45) l))

theorem lit_nats (s : ByteArray) (l : List UInt8) : (s.toList == l) = decide (nats s = l.map UInt8.toNat) := by
 have := beq_nats s ⟨l.toArray⟩
 have h1 : (⟨l.toArray⟩ : ByteArray).toList = l := by rw [Lib.toList_data]
 have h2 : nats ⟨l.toArray⟩ = l.map UInt8.toNat := rfl
 rw [h1] at this
 rw [this]
 exact decide_eq_decide.2 (by rw [h2])

theorem is_text (s : ByteArray) (l : List UInt8) (h : nats s = l.map UInt8.toNat) : (s.toList == l) = true := by rw [lit_nats, decide_eq_true h]
theorem not_text (s : ByteArray) (l : List UInt8) (h : ¬ nats s = l.map UInt8.toNat) : (s.toList == l) = false := by rw [lit_nats, decide_eq_false h]

set_option maxRecDepth 100000 in
theorem sep_any (s : ByteArray) (w : World) (hs : s.size < 100000000000) :
  Calls Tryz.prog 80 #[.string s] w fun e w' => e = .returned (.bool (sepF (nats s))) ∧ ∃ y : Ext w, w' = y.now := by
 have HA := Lib.hid (all_any enters_hyp kind_hyp s w hs)
 unfold sepF
 by_cases h1 : nats s = [46]
 ·have e1 := is_text s [46] h1
  rw [decide_eq_true h1]
  clear h1
  go_enter Tryz.func80, Tryz.ntmps80
  go_wp2
  go_ret
  exact ⟨rfl, Ext.here _⟩
 have e1 := not_text s [46] h1
 rw [decide_eq_false h1]
 clear h1
 by_cases h2 : nats s = [95]
 ·have e2 := is_text s [95] h2
  rw [decide_eq_true h2]
  clear h2
  go_enter Tryz.func80, Tryz.ntmps80
  go_wp2
  go_ret
  exact ⟨rfl, Ext.here _⟩
 have e2 := not_text s [95] h2
 rw [decide_eq_false h2]
 clear h2
 by_cases h3 : nats s = [95, 95]
 ·have e3 := is_text s [95, 95] h3
  rw [decide_eq_true h3]
  clear h3
  go_enter Tryz.func80, Tryz.ntmps80
  go_wp2
  go_ret
  exact ⟨rfl, Ext.here _⟩
 have e3 := not_text s [95, 95] h3
 rw [decide_eq_false h3]
 clear h3
 obtain ⟨b, hb⟩ : ∃ b, b = allF (is 45) (nats s) := ⟨_, rfl⟩
 rw [← hb] at HA ⊢
 clear hb
 go_enter Tryz.func80, Tryz.ntmps80
 go_wp2_with (first | (go_at_call 54; (with_reducible refine HA.out.mono ?_); rintro e w1 ⟨rfl, y, rfl⟩))
 go_ret
 exact ⟨by simp, y, rfl⟩

theorem drop_takeWhile (p : Nat → Bool) (l : List Nat) : l.drop (runLen p l) = l.dropWhile p := by
 unfold runLen
 induction l with
 | nil => rfl
 | cons x l ih =>
  rw [List.takeWhile_cons, List.dropWhile_cons]
  cases p x with
  | true => simpa using ih
  | false => simp

theorem take_runLen (p : Nat → Bool) (l : List Nat) : l.take (runLen p l) = l.takeWhile p := by
 unfold runLen
 exact (List.prefix_iff_eq_take.1 (List.takeWhile_prefix p)).symm

theorem takeWhile_nil {p : Nat → Bool} {l : List Nat} : l.takeWhile p = [] ↔ runLen p l = 0 := by
 unfold runLen
 exact List.length_eq_zero_iff.symm

theorem tailF_mono : ∀ (k : Nat) (l : List Nat) (j : Nat), l.length ≤ k → l.length ≤ j → tailF k l = tailF j l := by
 intro k l j hk hj
 have h1 := fun h => tailF_ok k l h
 by_cases h : tailF k l = true
 ·rw [h, tailF_all j l hj (h1 h)]
 ·have hk' : tailF k l = false := by simpa using h
  rw [hk']
  by_cases g : tailF j l = true
  ·exact absurd (tailF_all k l hk (tailF_ok j l g)) h
  ·simpa using g

theorem tail_round {l : List Nat} {i : Nat} (h : i < l.length) :
  tailF l.length (l.drop i) =
   (sepF ((l.drop i).takeWhile nlow) && (decide (runLen low (l.drop (i + runLen nlow (l.drop i))) ≠ 0) && tailF l.length (l.drop (i + runLen nlow (l.drop i) + runLen low (l.drop (i + runLen nlow (l.drop i))))))) := by
 have h1 : l.drop (i + runLen nlow (l.drop i)) = (l.drop i).dropWhile nlow := by rw [← List.drop_drop, drop_takeWhile]
 have h2 : l.drop (i + runLen nlow (l.drop i) + runLen low (l.drop (i + runLen nlow (l.drop i)))) = ((l.drop i).dropWhile nlow).dropWhile low := by
  rw [← List.drop_drop, h1, drop_takeWhile]
 rw [h2, h1]
 have hl : (l.drop i).length ≤ l.length := by simp
 cases hd : l.drop i with
 | nil => simp at hd; omega
 | cons x r =>
  have hx : l.length = (l.length - 1) + 1 := by omega
  rw [hx, tailF]
  have e1 : ((x :: r).takeWhile fun y => !low y) = (x :: r).takeWhile nlow := rfl
  have e2 : ((x :: r).dropWhile fun y => !low y) = (x :: r).dropWhile nlow := rfl
  simp only [e1, e2]
  have e3 : decide (((x :: r).dropWhile nlow).takeWhile low ≠ []) = decide (runLen low ((x :: r).dropWhile nlow) ≠ 0) := decide_eq_decide.2 (not_congr takeWhile_nil)
  rw [e3]
  unfold sepF allF
  simp only [Bool.and_assoc, Bool.or_assoc]
  by_cases hz : runLen low ((x :: r).dropWhile nlow) = 0
  ·simp [hz]
  ·congr 2
   refine tailF_mono _ _ _ ?_ ?_
   ·have hq : (((x :: r).dropWhile nlow).dropWhile low).length < ((x :: r).dropWhile nlow).length := by
     rw [← drop_takeWhile, List.length_drop]
     have := runLen_le low ((x :: r).dropWhile nlow)
     omega
    have hq2 : ((x :: r).dropWhile nlow).length ≤ (x :: r).length := (List.dropWhile_suffix _).length_le
    rw [hd] at hl
    omega
   ·have hq : (((x :: r).dropWhile nlow).dropWhile low).length ≤ ((x :: r).dropWhile nlow).length := (List.dropWhile_suffix _).length_le
    have hq2 : ((x :: r).dropWhile nlow).length ≤ (x :: r).length := (List.dropWhile_suffix _).length_le
    rw [hd] at hl
    omega

set_option maxRecDepth 100000 in
theorem comp_any (s : ByteArray) (w : World) (hs : s.size < 100000000000) :
  Calls Tryz.prog 62 #[.string s] w fun e w' => e = .returned (.bool (compF (nats s))) ∧ ∃ y : Ext w, w' = y.now := by
 have hr0 : Calls Tryz.prog 76 #[.string s, .int .i64 0, .func (.func 64) #[] #[]] w fun e w' => e = .returned (.int .i64 (runLen low (nats s) : Nat)) ∧ ∃ y : Ext w, w' = y.now := by
  have := run_any enters_lower kind_lower s 0 w (Nat.zero_le _) hs
  simp only [List.drop_zero, Nat.zero_add] at this
  exact this
 have hlen := nats_length s
 obtain ⟨i, hi⟩ : ∃ i, i = runLen low (nats s) := ⟨_, rfl⟩
 have hil : i ≤ s.size := by rw [hi, ← hlen]; exact runLen_le _ _
 have hc : compF (nats s) = (decide (i ≠ 0) && tailF (nats s).length ((nats s).drop i)) := by
  unfold compF
  rw [hi, drop_takeWhile]
  congr 1
  exact decide_eq_decide.2 (not_congr takeWhile_nil)
 rw [hc]
 rw [← hi] at hr0
 have HR := Lib.hid hr0
 clear hr0 hc hi
 by_cases hz : i = 0
 ·subst hz
  go_enter Tryz.func62, Tryz.ntmps62
  go_wp2_with (first | (go_at_call 76; (with_reducible refine HR.out.mono ?_); rintro e w1 ⟨rfl, y, rfl⟩))
  go_ret
  exact ⟨rfl, y, rfl⟩
 ·have hz' : ((i : Int) == 0) = false := beq_eq_false_iff_ne.2 (by omega)
  rw [decide_eq_true hz, Bool.true_and]
  obtain ⟨b, hb⟩ : ∃ b, b = tailF (nats s).length ((nats s).drop i) := ⟨_, rfl⟩
  rw [← hb]
  go_enter Tryz.func62, Tryz.ntmps62
  go_wp2_with (first | (go_at_call 76; (with_reducible refine HR.out.mono ?_); rintro e w1 ⟨rfl, y, rfl⟩))
  go_loopw [3] (fun t wr => ∃ k : Nat, t = .int .i64 k ∧ k ≤ s.size ∧ b = tailF (nats s).length ((nats s).drop k) ∧ ∃ x : Ext w, wr = x.now) (fun t _ => s.size - (intOf t).toNat)
  case atStart => exact ⟨i, rfl, hil, hb, y, rfl⟩
  case round =>
   obtain ⟨k, rfl, hks, hbk, x, rfl⟩ := hrel
   by_cases hlt : k < s.size
   ·have hlt' : (k : Int) < (s.size : Int) := by omega
    obtain ⟨m, hm⟩ : ∃ m, m = k + runLen nlow ((nats s).drop k) := ⟨_, rfl⟩
    obtain ⟨n, hn⟩ : ∃ n, n = m + runLen low ((nats s).drop m) := ⟨_, rfl⟩
    have hml : k ≤ m ∧ m ≤ s.size := by
     have := runLen_le nlow ((nats s).drop k)
     rw [List.length_drop, hlen] at this
     omega
    have hnl : m ≤ n ∧ n ≤ s.size := by
     have := runLen_le low ((nats s).drop m)
     rw [List.length_drop, hlen] at this
     omega
    have hround := tail_round (l := nats s) (i := k) (by rw [hlen]; exact hlt)
    rw [← hm, ← hn] at hround
    have hsep : nats (s.extract k m) = ((nats s).drop k).takeWhile nlow := by
     rw [nats_extract, List.drop_take, ← take_runLen]
     congr 1
     omega
    have c1 : ∀ W : World, Calls Tryz.prog 76 #[.string s, .int .i64 k, .func (.func 79) #[] #[]] W fun e w' => e = .returned (.int .i64 m) ∧ ∃ y : Ext W, w' = y.now := fun W => by rw [hm]; exact run_any enters_nlow kind_nlow s k W (by omega) hs
    have c2 : ∀ W : World, Calls Tryz.prog 76 #[.string s, .int .i64 m, .func (.func 64) #[] #[]] W fun e w' => e = .returned (.int .i64 n) ∧ ∃ y : Ext W, w' = y.now := fun W => by rw [hn]; exact run_any enters_lower kind_lower s m W (by omega) hs
    have c3 : ∀ W : World, Calls Tryz.prog 80 #[.string (s.extract k m)] W fun e w' => e = .returned (.bool (sepF (nats (s.extract k m)))) ∧ ∃ y : Ext W, w' = y.now := fun W => sep_any (s.extract k m) W (by rw [ByteArray.size_extract]; omega)
    have hkn : k < n ∨ n = m := by
     rcases Nat.lt_or_ge k n with h | h
     ·exact .inl h
     ·exact .inr (by omega)
    have hnm : decide (runLen low ((nats s).drop m) ≠ 0) = decide (n ≠ m) := decide_eq_decide.2 (by omega)
    rw [← hsep, hnm] at hround
    obtain ⟨b1, hb1⟩ : ∃ b1, b1 = sepF (nats (s.extract k m)) := ⟨_, rfl⟩
    rw [← hb1] at c3 hround
    rw [hround] at hbk
    have h0 : (0 : Int) ≤ (k : Int) := by omega
    have h1 : (k : Int) ≤ (m : Int) := by omega
    have h2 : (m : Int) ≤ (s.size : Int) := by omega
    have C1 := Lib.hid c1
    have C2 := Lib.hid c2
    have C3 := Lib.hid c3
    clear c1 c2 c3 hm hn hround hnm hb hb1 hsep
    by_cases hnm : n = m
    ·subst hnm
     have hbf : b = false := by rw [hbk]; simp
     subst hbf
     clear hbk
     cases b1 with
     | true =>
      go_wp2_with (first | (go_at_call 76; (with_reducible refine (C1.out _).mono ?_); rintro e w1 ⟨rfl, y1, rfl⟩) | (go_at_call 76; (with_reducible refine (C2.out _).mono ?_); rintro e w1 ⟨rfl, y2, rfl⟩) | (go_at_call 80; (with_reducible refine (C3.out _).mono ?_); rintro e w1 ⟨rfl, y3, rfl⟩))
      go_ret
      exact ⟨rfl, Ext.both x ((y1.trans y2).trans y3)⟩
     | false =>
      go_wp2_with (first | (go_at_call 76; (with_reducible refine (C1.out _).mono ?_); rintro e w1 ⟨rfl, y1, rfl⟩) | (go_at_call 76; (with_reducible refine (C2.out _).mono ?_); rintro e w1 ⟨rfl, y2, rfl⟩) | (go_at_call 80; (with_reducible refine (C3.out _).mono ?_); rintro e w1 ⟨rfl, y3, rfl⟩))
      go_ret
      exact ⟨rfl, Ext.both x ((y1.trans y2).trans y3)⟩
    ·have hnm' : ¬ (n : Int) = (m : Int) := by omega
     rw [decide_eq_true hnm, Bool.true_and] at hbk
     cases b1 with
     | true =>
      rw [Bool.true_and] at hbk
      have HBK := Lib.hid hbk
      clear hbk
      go_wp2_with (first | (go_at_call 76; (with_reducible refine (C1.out _).mono ?_); rintro e w1 ⟨rfl, y1, rfl⟩) | (go_at_call 76; (with_reducible refine (C2.out _).mono ?_); rintro e w1 ⟨rfl, y2, rfl⟩) | (go_at_call 80; (with_reducible refine (C3.out _).mono ?_); rintro e w1 ⟨rfl, y3, rfl⟩))
      exact ⟨⟨n, rfl, by omega, HBK.out, Ext.both x ((y1.trans y2).trans y3)⟩, by simp [intOf]; omega⟩
     | false =>
      have hbf : b = false := by rw [hbk]; simp
      subst hbf
      clear hbk
      go_wp2_with (first | (go_at_call 76; (with_reducible refine (C1.out _).mono ?_); rintro e w1 ⟨rfl, y1, rfl⟩) | (go_at_call 76; (with_reducible refine (C2.out _).mono ?_); rintro e w1 ⟨rfl, y2, rfl⟩) | (go_at_call 80; (with_reducible refine (C3.out _).mono ?_); rintro e w1 ⟨rfl, y3, rfl⟩))
      go_ret
      exact ⟨rfl, Ext.both x ((y1.trans y2).trans y3)⟩
   ·have hkn : k = s.size := by omega
    subst hkn
    have hlt' : ¬ ((s.size : Int) < (s.size : Int)) := by omega
    have hbt : b = true := by rw [hbk, List.drop_eq_nil_of_le (by rw [hlen]; exact Nat.le_refl _)]; rw [tailF]
    subst hbt
    clear hb hbk
    go_wp2_with fail
    go_ret
    exact ⟨rfl, x, rfl⟩

end Go.Proofs.YtkbmigfkclnlaaaGreatDoor
namespace Go.Proofs.YtkbmigfkclnlaaaGreatDoor
open Go.RowKit Go.Rx
attribute [local go_sem] Ext.cell Ext.frozen Ext.lt Ext.lt_add Ext.cell2 Ext.frozen2

theorem firstF_split (c : Nat) (l : List Nat) : (firstF c l = -1 ∧ c ∉ l) ∨ ∃ a b, l = a ++ c :: b ∧ c ∉ a ∧ firstF c l = a.length := by
 by_cases h : c ∈ l
 ·obtain ⟨a, b, rfl, ha⟩ := split_first h
  refine .inr ⟨a, b, rfl, ha, ?_⟩
  unfold firstF runLen
  rw [if_pos (by simp), List.takeWhile_append_of_pos]
  ·rw [List.takeWhile_cons, if_neg (by simp [is])]
   simp
  ·intro x hx
   have : x ≠ c := fun e => ha (e ▸ hx)
   simp [is, this]
 ·exact .inl ⟨if_neg h, h⟩

theorem str_append (w : World) {ops : Array Oper} {rest : List Oper} {o : Oper} {a : Act} {Q : Exit → Act → World → Prop} (hgd : o.guard = none) (s x : Operand)
  (ho : o.op = .call { callee := .builtin .append, args := #[s, x], argTypes := #[89, 89] }) (base n : Nat) (v : Value) (xs : List Value) (hs : a.eval s = v)
  (hown : w.ownsRow base 9 1 v n xs) (ad : Addr) (c : Nat) (d : ByteArray) (hx : a.eval x = .slice (some ad) 1 c)
  (hnews : w.cell? ad = some (.string d)) (hn : n < 1000000000000) (hbase : base ≤ w.heap.size)
  (h : ∀ g cap w', w'.ownsRow base 9 1 (.slice (some ⟨g, 0, none⟩) (n + 1) cap) (n + 1) (xs ++ [.string d]) → w.grownBy w' v.ownBlock → wpList Tryz.prog ops Q rest (a.put o.dst (.slice (some ⟨g, 0, none⟩) (n + 1) cap)) w') :
  wpList Tryz.prog ops Q (o :: rest) a w := by
 obtain ⟨i, hi, hz0, hz1, hz2⟩ := info_parts str_info
 refine wpList_append_lies w hgd s x 89 ho base 9 i _ 1 16 (by kernel_rfl) hi hz0 hz1 hz2 rfl (by omega) v n xs hs hown ad 1 c [.string d] hx (by simp) ?_ (by simp [Value.oneCell']) (by omega) (by simp [maxLen]; omega) (by omega) hbase _ rfl (fun g cap w' a1 a2 _ _ => h g cap w' a1 a2)
 intro j u hu
 match j, hu with
 | 0, hu =>
  simp at hu
  subst hu
  simpa [Addr.add] using hnews

theorem oper_append (w : World) {o : Oper} {a : Act} {K : Act → World → Prop} {Q : Exit → Act → World → Prop} (s x : Operand)
  (ho : o.op = .call { callee := .builtin .append, args := #[s, x], argTypes := #[89, 89] }) (base n : Nat) (v : Value) (xs : List Value) (hs : a.eval s = v)
  (hown : w.ownsRow base 9 1 v n xs) (ad : Addr) (c : Nat) (d : ByteArray) (hx : a.eval x = .slice (some ad) 1 c)
  (hnews : w.cell? ad = some (.string d)) (hn : n < 1000000000000) (hbase : base ≤ w.heap.size)
  (h : ∀ g cap w', w'.ownsRow base 9 1 (.slice (some ⟨g, 0, none⟩) (n + 1) cap) (n + 1) (xs ++ [.string d]) → w.grownBy w' v.ownBlock → K (a.put o.dst (.slice (some ⟨g, 0, none⟩) (n + 1) cap)) w') :
  Oper.wp Tryz.prog o a w K Q := by
 obtain ⟨i, hi, hz0, hz1, hz2⟩ := info_parts str_info
 have hnw : ∀ j u, [Value.string d][j]? = some u → w.cell? (ad.add j) = some u := by
  intro j u hu
  match j, hu with
  | 0, hu =>
   simp at hu
   subst hu
   simpa [Addr.add] using hnews
 obtain ⟨v', w', hr, h2, h3, h4, h5⟩ := run_append_own_at (P := Tryz.prog) w base 89 o.type 9 i _ 1 16 (by kernel_rfl) hi hz0 hz1 hz2 rfl (by omega) v n xs hown ad 1 c [.string d] (by simp) hnw (by simp [Value.oneCell']) (by simp [maxLen]; omega) (by omega) hbase
 obtain ⟨g, cap, rfl, _⟩ := ownsRow_cell h2 (by omega)
 have hk := h g cap w' h2 h3
 unfold Oper.wp execOp
 simp only [ho, resolve, invoke, builtin, Sem.run_bind, Sem.run_pure, Result.andThen_ok, List.map_toArray, List.map_cons, List.map_nil, hs, hx, hr]
 exact hk

def strLen : Value → Nat
 | .string s => s.size
 | _ => 0

set_option maxRecDepth 1000000 in
theorem pieces_any (s : ByteArray) (c : Nat) (w : World) (hs : s.size < 100000000000) :
  Calls Tryz.prog 61 #[.string s, .int .u8 c] w fun e w' =>
   ∃ (g cap : Nat) (ds : List ByteArray), e = .returned (.slice (some ⟨g, 0, none⟩) ds.length cap) ∧ ds.map nats = pieces c (nats s) ∧ ds.length ≤ s.size + 1 ∧ (∀ d ∈ ds, d.size ≤ s.size) ∧
    g < w'.heap.size ∧ (∀ i, i < ds.length → w'.cell? ⟨g, i, none⟩ = (ds.map Value.string)[i]?) ∧ ∃ y : Ext w, w' = y.now := by
 go_enter Tryz.func61, Tryz.ntmps61
 go_wp2_with fail
 go_loopw [0, 5] (fun t0 t5 wr => ∃ (r : ByteArray) (v : Value) (ds : List ByteArray), t0 = .string r ∧ t5 = v ∧ ds.length + r.size ≤ s.size ∧ ds.map nats ++ pieces c (nats r) = pieces c (nats s) ∧ (∀ d ∈ ds, d.size ≤ s.size) ∧
  wr.ownsRow w.heap.size 9 1 v ds.length (ds.map Value.string) ∧ ∃ x : Ext w, wr = x.now) (fun t0 _ _ => strLen t0)
 case atStart => exact ⟨s, _, [], rfl, rfl, by simp, by simp, by simp, by simpa using World.ownsRow_nil w w.heap.size 9 1, Ext.here _⟩
 case round =>
  obtain ⟨r, v, ds, rfl, rfl, hsz, hp, hd, hown, x, rfl⟩ := hrel
  have hf := first_any r c x.now (by omega)
  have HF := Lib.hid hf
  have HOWN := Lib.hid hown
  have HP := Lib.hid hp
  have HD := Lib.hid hd
  clear hf hown hp hd
  rcases firstF_split c (nats r) with ⟨hneg, hno⟩ | ⟨pa, pb, hr, hno, hlen⟩
  ·rw [hneg] at HF
   have hlt : (-1 : Int) < 0 := by omega
   go_wp2_with (first | (go_at_call 7; (with_reducible refine HF.out.mono ?_); rintro e w1 ⟨rfl, rfl⟩) | (at_builtin; refine str_append _ rfl _ _ rfl w.heap.size ds.length u5 (ds.map Value.string) rfl (HOWN.out.alloc _) ⟨x.now.heap.size, 0, none⟩ 1 r rfl (by simp) (by omega) (by have := x.le; simp; omega) ?_))
   intro g cap w1 ho hg
   obtain ⟨g', cap', hgc, _, hgl, hcell⟩ := ownsRow_cell ho (by omega)
   have hgg : g' = g := by simp at hgc; exact hgc.1.symm
   subst hgg
   have hxe := Ext.grown (x.trans (Ext.one _ _)) rfl (HOWN.out.alloc (Obj.cells #[Value.string r] 9)) hg
   have HC := Lib.hid hcell
   have HX := Lib.hid hxe
   clear hcell hxe hgc ho hg hneg
   go_wp2_with fail
   go_ret
   refine ⟨g', cap, ds ++ [r], by simp, ?_, by simp; omega, ?_, hgl, ?_, HX.out⟩
   ·rw [← HP.out, pieces_none hno]; simp
   ·intro d hd
    rcases List.mem_append.1 hd with hd | hd
    ·exact HD.out d hd
    ·simp at hd
     rw [hd]
     omega
   ·intro i hi
    rw [HC.out i (by simpa using hi)]
    simp
  ·have hrl : pa.length < r.size := by
    have := nats_length r
    rw [hr] at this
    simp at this
    omega
   rw [hlen] at HF
   have hlt : ¬ ((pa.length : Nat) : Int) < 0 := by omega
   have h0 : (0 : Int) ≤ ((pa.length : Nat) : Int) := by omega
   have h1 : ((pa.length : Nat) : Int) ≤ ((r.size : Nat) : Int) := by omega
   have h2 : IntKind.i64.wrap (((pa.length : Nat) : Int) + 1) = ((pa.length : Nat) : Int) + 1 := by rw [Go.IntWalk.i64_left]; exact Go.IntWalk.wrap64_in _ (by omega)
   have h3 : ((pa.length : Nat) : Int) + 1 ≤ ((r.size : Nat) : Int) := by omega
   have h4 : (0 : Int) ≤ ((pa.length : Nat) : Int) + 1 := by omega
   go_wp2_with (first | (go_at_call 7; (with_reducible refine HF.out.mono ?_); rintro e w1 ⟨rfl, rfl⟩))
   refine wp_region_any (by kernel_rfl) ?_
   try (change wpAny _ _ _ _ _ _ _ (World.drew _))
   refine wpAny_take (i := 0) (v := u5) rfl (by kernel_rfl) (by kernel_rfl) (by kernel_rfl) (fun _ _ _ h => h) (Or.inl ⟨by rfl, fun w => by go_simp⟩) ?_
   refine wpAny_take (i := 1) (v := .string r) rfl (by kernel_rfl) (by kernel_rfl) (by kernel_rfl) (fun _ _ _ h => h) (Or.inl ⟨by rfl, fun w => by go_simp⟩) ?_
   refine wpAny_take (i := 2) (v := .int .i64 pa.length) rfl (by kernel_rfl) (by kernel_rfl) (by kernel_rfl) (fun _ _ _ h => h) (Or.inl ⟨by rfl, fun w => by go_simp⟩) ?_
   refine wpAny_take (i := 3) (v := .string (r.extract 0 pa.length)) rfl (by kernel_rfl) (by kernel_rfl) (by kernel_rfl) (fun _ _ _ h => h) (Or.inl ⟨by rfl, fun w => by go_simp⟩) ?_
   refine wpAny_take (i := 6) (v := .string r) rfl (by kernel_rfl) (by kernel_rfl) (by kernel_rfl) (fun _ _ _ h => h) (Or.inl ⟨by rfl, fun w => by go_simp⟩) ?_
   refine wpAny_take (i := 7) (v := .int .i64 pa.length) rfl (by kernel_rfl) (by kernel_rfl) (by kernel_rfl) (fun _ _ _ h => h) (Or.inl ⟨by rfl, fun w => by go_simp⟩) ?_
   refine wpAny_take (i := 8) (v := .int .i64 ((pa.length : Nat) + 1 : Int)) rfl (by kernel_rfl) (by kernel_rfl) (by kernel_rfl) (fun _ _ _ h => h) (Or.inl ⟨by rfl, fun w => by go_simp⟩) ?_
   refine wpAny_take (i := 9) (v := .string (r.extract (pa.length + 1) r.size)) rfl (by kernel_rfl) (by kernel_rfl) (by kernel_rfl) (fun _ _ _ h => h) (Or.inl ⟨by rfl, fun w => by go_simp⟩) ?_
   refine wpAny_ready (rs := [4]) (by kernel_rfl) (by simp) ?_
   refine AllReady.cons rfl (fun K hK => ?_) AllReady.nil
   go_simp
   refine hK _ _ ?_
   clear hK K
   refine wpAny_ready (rs := [5]) (by kernel_rfl) (by simp) ?_
   refine AllReady.cons rfl (fun K hK => ?_) AllReady.nil
   rw [if_pos (by rfl)]
   refine oper_append _ (.tmp 16) (.tmp 20) rfl w.heap.size ds.length u5 (ds.map Value.string) rfl (HOWN.out.alloc _) ⟨x.now.heap.size, 0, none⟩ 1 (r.extract 0 pa.length) rfl (by simp) (by omega) (by have := x.le; simp; omega) ?_
   intro g cap w1 ho hg
   refine hK _ _ ?_
   clear hK K
   have hxe := Ext.grown ((x.trans (Ext.one _ _)).trans (Ext.drewn _)) rfl (HOWN.out.alloc (Obj.cells #[Value.string (r.extract 0 pa.length)] 9)) hg
   have hna : nats (r.extract 0 pa.length) = pa := by rw [nats_extract, hr]; simp
   have hnb : nats (r.extract (pa.length + 1) r.size) = pb := by
    rw [nats_extract, ← nats_length r, List.take_length, hr, List.append_cons, List.drop_append_of_le_length (by simp)]
    simp
   have hsz2 : (r.extract (pa.length + 1) r.size).size = r.size - (pa.length + 1) := by rw [ByteArray.size_extract]; omega
   have hsz3 : (r.extract 0 pa.length).size ≤ s.size := by rw [ByteArray.size_extract]; omega
   refine wpAny_ready (rs := [10]) (by kernel_rfl) (by simp) ?_
   refine AllReady.cons rfl (fun K hK => ?_) AllReady.nil
   go_simp
   refine hK _ _ ?_
   clear hK K
   refine wpAny_ready (rs := [11]) (by kernel_rfl) (by simp) ?_
   refine AllReady.cons rfl (fun K hK => ?_) AllReady.nil
   go_simp
   refine hK _ _ ?_
   clear hK K
   refine wpAny_done (by kernel_rfl) ?_ _
   go_wp2_with fail
   refine ⟨⟨r.extract (pa.length + 1) r.size, _, ds ++ [r.extract 0 pa.length], rfl, rfl, ?_, ?_, ?_, ?_, hxe⟩, ?_⟩
   ·simp; omega
   ·rw [← HP.out, hr, pieces_at pb hno, hnb]
    simp [hna]
   ·intro d hd
    rcases List.mem_append.1 hd with hd | hd
    ·exact HD.out d hd
    ·simp at hd
     rw [hd]
     exact hsz3
   ·simpa using ho
   ·simp [strLen]; omega

theorem pieces_lit (s : ByteArray) (c : Nat) (ci : Int) (h : (c : Int) = ci) (w : World) (hs : s.size < 100000000000) :
  Calls Tryz.prog 61 #[.string s, .int .u8 ci] w fun e w' =>
   ∃ (g cap : Nat) (ds : List ByteArray), e = .returned (.slice (some ⟨g, 0, none⟩) ds.length cap) ∧ ds.map nats = pieces c (nats s) ∧ ds.length ≤ s.size + 1 ∧ (∀ d ∈ ds, d.size ≤ s.size) ∧
    g < w'.heap.size ∧ (∀ i, i < ds.length → w'.cell? ⟨g, i, none⟩ = (ds.map Value.string)[i]?) ∧ ∃ y : Ext w, w' = y.now := by
 subst h
 exact pieces_any s c w hs

theorem first_lit (s : ByteArray) (c : Nat) (ci : Int) (h : (c : Int) = ci) (w : World) (hs : s.size < 100000000000) :
  Calls Tryz.prog 7 #[.string s, .int .u8 ci] w fun e w' => e = .returned (.int .i64 (firstF c (nats s))) ∧ w' = w := by
 subst h
 exact first_any s c w hs

abbrev KindS (F : FuncId) (p : List Nat → Bool) : Prop := ∀ (s : ByteArray) (w : World), s.size < 100000000000 → Calls Tryz.prog F #[.string s] w fun e w' => e = .returned (.bool (p (nats s))) ∧ ∃ y : Ext w, w' = y.now

theorem enters_comp : Enters 62 := fun args w => by kernel_rfl
theorem enters_label : Enters 78 := fun args w => by kernel_rfl

set_option maxRecDepth 100000 in
theorem each_any {F : FuncId} {p : List Nat → Bool} (he : Enters F) (hk : KindS F p) (ds : List ByteArray) (g cap n : Nat) (w : World) (hn : ds.length = n) (hb : n < 1000000000000) (hd : ∀ d ∈ ds, d.size < 100000000000) (hg : g < w.heap.size)
  (hc : ∀ i, i < ds.length → w.cell? ⟨g, i, none⟩ = (ds.map Value.string)[i]?) :
  Calls Tryz.prog 60 #[.slice (some ⟨g, 0, none⟩) n cap, .func (.func F) #[] #[]] w fun e w' => e = .returned (.bool ((ds.map nats).all p)) ∧ ∃ y : Ext w, w' = y.now := by
 have HK := Lib.hid hk
 have HD := Lib.hid hd
 have HC := Lib.hid hc
 have HN := Lib.hid hn
 obtain ⟨b0, hb0⟩ : ∃ b0, b0 = (ds.map nats).all p := ⟨_, rfl⟩
 rw [← hb0]
 clear hk hd hc hn
 go_enter Tryz.func60, Tryz.ntmps60
 go_wp2_with fail
 go_loopw [9] (fun t wr => ∃ k : Nat, t = .int .i64 k ∧ k ≤ n ∧ b0 = ((ds.map nats).drop k).all p ∧ ∃ x : Ext w, wr = x.now) (fun t _ => n - (intOf t).toNat)
 case atStart => exact ⟨0, rfl, Nat.zero_le _, hb0, Ext.here _⟩
 case round =>
  obtain ⟨k, rfl, hkn, hall, x, rfl⟩ := hrel
  by_cases hlt : k < n
  ·have hlt' : (k : Int) < (n : Int) := by omega
   have h0 : (0 : Int) ≤ (k : Int) := by omega
   have hkd : k < ds.length := by have := HN.out; omega
   have hcell : x.now.cell? ⟨g, k, none⟩ = some (.string ds[k]) := by
    rw [x.cell g k hg, HC.out k hkd, List.getElem?_map, List.getElem?_eq_getElem hkd]
    rfl
   have hK := fun W : World => HK.out (ds[k]) W (HD.out _ (List.getElem_mem hkd))
   have hr : ((ds.map nats).drop k).all p = (p (nats ds[k]) && ((ds.map nats).drop (k + 1)).all p) := by
    rw [List.drop_eq_getElem_cons (by simpa using hkd), List.all_cons, List.getElem_map]
   obtain ⟨b, hb1⟩ : ∃ b, b = p (nats ds[k]) := ⟨_, rfl⟩
   rw [← hb1] at hr
   have hK' : ∀ W : World, Calls Tryz.prog F #[.string ds[k]] W fun e w' => e = .returned (.bool b) ∧ ∃ y : Ext W, w' = y.now := by rw [hb1]; exact hK
   rw [hr] at hall
   have HALL := Lib.hid hall
   have HKK := Lib.hid hK'
   clear hK hK' hr hb1 hall
   cases b with
   | true =>
    go_wp2_with (with_reducible refine (HKK.out _).mono ?_; rintro e w1 ⟨rfl, y, rfl⟩)
    exact ⟨⟨k + 1, by simp, by omega, by rw [HALL.out, Bool.true_and], Ext.both x y⟩, by simp [intOf]; omega⟩
   | false =>
    go_wp2_with (with_reducible refine (HKK.out _).mono ?_; rintro e w1 ⟨rfl, y, rfl⟩)
    go_ret
    exact ⟨by rw [HALL.out]; rfl, Ext.both x y⟩
  ·have hkk : k = n := by omega
   subst hkk
   have hlt' : ¬ ((k : Int) < (k : Int)) := by omega
   have hbt : b0 = true := by rw [hall, List.drop_eq_nil_of_le (by have := HN.out; simp; omega)]; rfl
   subst hbt
   clear hall hb0
   go_wp2_with fail
   go_ret
   exact ⟨rfl, x, rfl⟩

def pathF (l : List Nat) : Bool := (pieces 47 l).all compF

theorem pathF_iff (l : List Nat) : pathF l = true ↔ Path l := by
 unfold pathF
 rw [path_iff, List.all_eq_true]

theorem path_any : KindS 37 pathF := by
 intro s w hs
 have h1 := Lib.hid (pieces_lit s 47 47 rfl w hs)
 unfold pathF
 go_enter Tryz.func37, Tryz.ntmps37
 go_wp2_with (first | (go_at_call 61; (with_reducible refine h1.out.mono ?_); rintro e w1 ⟨g, cap, ds, rfl, hp, hn, hd, hgl, hc, y, rfl⟩) | (go_at_call 60; have h2 := each_any enters_comp comp_any ds g cap ds.length y.now rfl (by omega) (fun d h => by have := hd d h; omega) hgl hc; rw [hp] at h2; (with_reducible refine h2.mono ?_); rintro e w1 ⟨rfl, z, rfl⟩))
 go_ret
 exact ⟨rfl, Ext.both y z⟩

theorem int_bne (a c : Nat) (ci : Int) (h : (c : Int) = ci) : (((a : Nat) : Int) != ci) = !decide (a = c) := by
 subst h
 have := int_beq a c
 simp only [bne, this]

def labelF (l : List Nat) : Bool := allF anh l && (!decide (l.getD 0 0 = 45) && !decide (l.getD (l.length - 1) 0 = 45))

theorem labelF_iff (l : List Nat) : labelF l = true ↔ LabelIs l := by
 unfold labelF LabelIs allF AllOf
 cases l with
 | nil => simp
 | cons x r =>
  rw [List.getLast?_eq_getElem?, List.getD_eq_getElem?_getD, List.getD_eq_getElem?_getD]
  have : (x :: r).length - 1 < (x :: r).length := by simp
  rw [List.getElem?_eq_getElem this]
  simp

set_option maxRecDepth 100000 in
theorem label_any : KindS 78 labelF := by
 intro s w hs
 have h1 := all_any enters_anh kind_anh s w hs
 unfold labelF
 obtain ⟨b, hb⟩ : ∃ b, b = allF anh (nats s) := ⟨_, rfl⟩
 rw [← hb] at h1 ⊢
 have H1 := Lib.hid h1
 clear h1
 cases b with
 | false =>
  clear hb
  go_enter Tryz.func78, Tryz.ntmps78
  go_wp2_with (first | (go_at_call 54; (with_reducible refine H1.out.mono ?_); rintro e w1 ⟨rfl, y, rfl⟩))
  go_ret
  exact ⟨rfl, y, rfl⟩
 | true =>
  have hpos : 0 < s.size := by
   rw [← nats_length]
   unfold allF at hb
   rw [List.length_pos_iff]
   intro h
   rw [h] at hb
   simp at hb
  have hpos' : (0 : Int) < (s.size : Int) := by omega
  have a0 := nats_at s 0 hpos
  have hl1 : s.size - 1 < s.size := by omega
  have a1 := nats_at s (s.size - 1) hl1
  rw [nats_length, a0, a1]
  have q1 : (0 : Int) ≤ (s.size : Int) - 1 := by omega
  have q2 : (s.size : Int) - 1 < (s.size : Int) := by omega
  have q3 : ((s.size : Int) - 1).toNat = s.size - 1 := by omega
  clear hb a0 a1
  go_enter Tryz.func78, Tryz.ntmps78
  go_wp2_with (first | (go_at_call 54; (with_reducible refine H1.out.mono ?_); rintro e w1 ⟨rfl, y, rfl⟩))
  ·go_ret
   refine ⟨?_, y, rfl⟩
   rename_i h45
   rw [decide_eq_true (show (s[0]'hpos).toNat = 45 by omega)]
   rfl
  ·go_ret
   refine ⟨?_, y, rfl⟩
   show Ending.returned (.bool ((((s[0]'hpos).toNat : Nat) : Int) != 45 && (((s[s.size - 1]'hl1).toNat : Nat) : Int) != 45)) = _
   rw [int_bne _ 45 45 rfl, int_bne _ 45 45 rfl, Bool.true_and]

end Go.Proofs.YtkbmigfkclnlaaaGreatDoor
namespace Go.Proofs.YtkbmigfkclnlaaaGreatDoor
open Go.RowKit Go.Rx
attribute [local go_sem] Ext.cell Ext.frozen Ext.lt Ext.lt_add Ext.cell2 Ext.frozen2

def hostF (l : List Nat) : Bool :=
 if 2 < l.length ∧ l.getD 0 0 = 91 ∧ l.getD (l.length - 1) 0 = 93 then allF hcl ((l.take (l.length - 1)).drop 1) else (pieces 46 l).all labelF

theorem hostF_iff (l : List Nat) : hostF l = true ↔ HostIs l := by
 unfold hostF HostIs
 have h1 : (2 < l.length ∧ l.getD 0 0 = 91 ∧ l.getD (l.length - 1) 0 = 93) ↔ (2 < l.length ∧ l.head? = some 91 ∧ l.getLast? = some 93) := by
  cases l with
  | nil => simp
  | cons x r =>
   rw [List.getLast?_eq_getElem?, List.getD_eq_getElem?_getD, List.getD_eq_getElem?_getD]
   have : (x :: r).length - 1 < (x :: r).length := by simp
   rw [List.getElem?_eq_getElem this]
   simp
 by_cases h : 2 < l.length ∧ l.getD 0 0 = 91 ∧ l.getD (l.length - 1) 0 = 93
 ·rw [if_pos h, if_pos (h1.1 h)]
  have : (l.take (l.length - 1)).drop 1 = (l.drop 1).dropLast := by
   rw [List.dropLast_eq_take, List.drop_take, List.length_drop]
  rw [this]
  unfold allF AllOf
  simp
 ·rw [if_neg h, if_neg (fun g => h (h1.2 g)), List.all_eq_true]
  exact forall_congr' fun p => imp_congr_right fun _ => labelF_iff p

theorem at_u8 (s : ByteArray) (i : Nat) (h : i < s.size) (c : Nat) (hc : (nats s).getD i 0 = c) : (((s[i]'h).toNat : Nat) : Int) = (c : Int) := by rw [← nats_at s i h, hc]
theorem at_ne (s : ByteArray) (i : Nat) (h : i < s.size) (c : Nat) (hc : ¬ (nats s).getD i 0 = c) : ¬ (((s[i]'h).toNat : Nat) : Int) = (c : Int) := by
 rw [nats_at s i h] at hc
 omega

set_option maxRecDepth 100000 in
theorem host_any : KindS 58 hostF := by
 intro s w hs
 have hl := nats_length s
 have h1 := Lib.hid (pieces_lit s 46 46 rfl w hs)
 unfold hostF
 rw [hl]
 by_cases ha : 2 < s.size
 ·have g1 : (2 : Int) < (s.size : Int) := by omega
  have hp0 : 0 < s.size := by omega
  have hp1 : s.size - 1 < s.size := by omega
  have q0 : (0 : Int) < (s.size : Int) := by omega
  have q1 : (0 : Int) ≤ (s.size : Int) - 1 := by omega
  have q2 : (s.size : Int) - 1 < (s.size : Int) := by omega
  have q3 : ((s.size : Int) - 1).toNat = s.size - 1 := by omega
  have q4 : (1 : Int) ≤ (s.size : Int) - 1 := by omega
  have q5 : (s.size : Int) - 1 ≤ (s.size : Int) := by omega
  by_cases hb : (nats s).getD 0 0 = 91
  ·have g2 := at_u8 s 0 hp0 91 hb
   by_cases hc : (nats s).getD (s.size - 1) 0 = 93
   ·have g3 := at_u8 s (s.size - 1) hp1 93 hc
    rw [if_pos ⟨ha, hb, hc⟩]
    have hn : nats (s.extract 1 (s.size - 1)) = ((nats s).take (s.size - 1)).drop 1 := nats_extract _ _ _
    have h2 := fun W : World => all_any enters_hcl kind_hcl (s.extract 1 (s.size - 1)) W (by rw [ByteArray.size_extract]; omega)
    rw [hn] at h2
    obtain ⟨b, hb0⟩ : ∃ b, b = allF hcl (((nats s).take (s.size - 1)).drop 1) := ⟨_, rfl⟩
    rw [← hb0] at h2 ⊢
    have H2 := Lib.hid h2
    clear h2 hn hb hc hb0
    go_enter Tryz.func58, Tryz.ntmps58
    go_wp2_with (first | (go_at_call 54; (with_reducible refine (H2.out _).mono ?_); rintro e w1 ⟨rfl, y, rfl⟩))
    go_ret
    exact ⟨rfl, y, rfl⟩
   ·have g3 := at_ne s (s.size - 1) hp1 93 hc
    rw [if_neg (fun h => hc h.2.2)]
    clear hb hc
    go_enter Tryz.func58, Tryz.ntmps58
    go_wp2_with (first | (go_at_call 61; (with_reducible refine h1.out.mono ?_); rintro e w1 ⟨g, cap, ds, rfl, hp, hn, hd, hgl, hc, y, rfl⟩) | (go_at_call 60; have h2 := each_any enters_label label_any ds g cap ds.length y.now rfl (by omega) (fun d h => by have := hd d h; omega) hgl hc; rw [hp] at h2; (with_reducible refine h2.mono ?_); rintro e w1 ⟨rfl, z, rfl⟩))
    go_ret
    exact ⟨rfl, Ext.both y z⟩
  ·have g2 := at_ne s 0 hp0 91 hb
   rw [if_neg (fun h => hb h.2.1)]
   clear hb
   go_enter Tryz.func58, Tryz.ntmps58
   go_wp2_with (first | (go_at_call 61; (with_reducible refine h1.out.mono ?_); rintro e w1 ⟨g, cap, ds, rfl, hp, hn, hd, hgl, hc, y, rfl⟩) | (go_at_call 60; have h2 := each_any enters_label label_any ds g cap ds.length y.now rfl (by omega) (fun d h => by have := hd d h; omega) hgl hc; rw [hp] at h2; (with_reducible refine h2.mono ?_); rintro e w1 ⟨rfl, z, rfl⟩))
   go_ret
   exact ⟨rfl, Ext.both y z⟩
 ·have g1 : ¬ (2 : Int) < (s.size : Int) := by omega
  rw [if_neg (fun h => ha h.1)]
  go_enter Tryz.func58, Tryz.ntmps58
  go_wp2_with (first | (go_at_call 61; (with_reducible refine h1.out.mono ?_); rintro e w1 ⟨g, cap, ds, rfl, hp, hn, hd, hgl, hc, y, rfl⟩) | (go_at_call 60; have h2 := each_any enters_label label_any ds g cap ds.length y.now rfl (by omega) (fun d h => by have := hd d h; omega) hgl hc; rw [hp] at h2; (with_reducible refine h2.mono ?_); rintro e w1 ⟨rfl, z, rfl⟩))
  go_ret
  exact ⟨rfl, Ext.both y z⟩

def domAt (l : List Nat) (k : Nat) : Bool := decide (l.getD k 0 = 58) && (hostF (l.take k) && allF dig (l.drop (k + 1)))
def domF (l : List Nat) : Bool := hostF l || (List.range' 0 l.length).any (domAt l)

theorem at_split {l : List Nat} {k c : Nat} (hk : k < l.length) (h : l.getD k 0 = c) : l = l.take k ++ c :: l.drop (k + 1) := by
 rw [List.getD_eq_getElem?_getD, List.getElem?_eq_getElem hk] at h
 simp at h
 rw [← h, ← List.drop_eq_getElem_cons hk, List.take_append_drop]

theorem domF_iff (l : List Nat) : domF l = true ↔ Domain l := by
 unfold domF
 rw [domain_iff, Bool.or_eq_true, hostF_iff, List.any_eq_true]
 refine or_congr Iff.rfl ⟨?_, ?_⟩
 ·rintro ⟨k, hk, h⟩
  rw [List.mem_range'_1] at hk
  unfold domAt at h
  simp only [Bool.and_eq_true, decide_eq_true_eq] at h
  obtain ⟨h1, h2, h3⟩ := h
  refine ⟨l.take k, l.drop (k + 1), at_split (by omega) h1, (hostF_iff _).1 h2, ?_⟩
  unfold allF at h3
  simpa [AllOf] using h3
 ·rintro ⟨a, b, rfl, ha, hb⟩
  refine ⟨a.length, by rw [List.mem_range'_1]; simp, ?_⟩
  unfold domAt
  have h1 : (a ++ 58 :: b).getD a.length 0 = 58 := by rw [List.getD_eq_getElem?_getD]; simp
  have h2 : (a ++ 58 :: b).take a.length = a := by simp
  have h3 : (a ++ 58 :: b).drop (a.length + 1) = b := by rw [List.append_cons, List.drop_append_of_le_length (by simp)]; simp
  rw [h1, h2, h3, (hostF_iff a).2 ha]
  unfold allF
  simpa [AllOf] using hb

theorem nats_take (s : ByteArray) (k : Nat) : nats (s.extract 0 k) = (nats s).take k := by rw [nats_extract, List.drop_zero]
theorem nats_drop (s : ByteArray) (k : Nat) : nats (s.extract k s.size) = (nats s).drop k := by rw [nats_extract, ← nats_length s, List.take_length]

set_option maxRecDepth 100000 in
theorem domain_any : KindS 36 domF := by
 intro s w hs
 have hl := nats_length s
 have h1 := host_any s w hs
 unfold domF
 obtain ⟨b, hb⟩ : ∃ b, b = hostF (nats s) := ⟨_, rfl⟩
 rw [← hb] at h1 ⊢
 have H1 := Lib.hid h1
 clear h1 hb
 cases b with
 | true =>
  go_enter Tryz.func36, Tryz.ntmps36
  go_wp2_with (first | (go_at_call 58; (with_reducible refine H1.out.mono ?_); rintro e w1 ⟨rfl, y, rfl⟩))
  go_ret
  exact ⟨rfl, y, rfl⟩
 | false =>
  rw [Bool.false_or]
  obtain ⟨b, hb⟩ : ∃ b, b = (List.range' 0 (nats s).length).any (domAt (nats s)) := ⟨_, rfl⟩
  rw [← hb]
  go_enter Tryz.func36, Tryz.ntmps36
  go_wp2_with (first | (go_at_call 58; (with_reducible refine H1.out.mono ?_); rintro e w1 ⟨rfl, y, rfl⟩))
  go_loopw [3] (fun t wr => ∃ k : Nat, t = .int .i64 k ∧ k ≤ s.size ∧ b = (List.range' k (s.size - k)).any (domAt (nats s)) ∧ ∃ x : Ext w, wr = x.now) (fun t _ => s.size - (intOf t).toNat)
  case atStart => exact ⟨0, rfl, Nat.zero_le _, by rw [hb, hl]; rfl, y, rfl⟩
  case round =>
   obtain ⟨k, rfl, hks, hbk, x, rfl⟩ := hrel
   by_cases hlt : k < s.size
   ·have hlt' : (k : Int) < (s.size : Int) := by omega
    have h0 : (0 : Int) ≤ (k : Int) := by omega
    have h1 : (k : Int) ≤ (s.size : Int) := by omega
    have h2 : (k : Int) + 1 ≤ (s.size : Int) := by omega
    have h3 : (0 : Int) ≤ (k : Int) + 1 := by omega
    have h4 : ((k : Int) + 1).toNat = k + 1 := by omega
    rw [show s.size - k = (s.size - (k + 1)) + 1 by omega, List.range'_succ, List.any_cons] at hbk
    by_cases hc : (nats s).getD k 0 = 58
    ·have g1 := at_u8 s k hlt 58 hc
     have hd : domAt (nats s) k = (hostF (nats (s.extract 0 k)) && allF dig (nats (s.extract (k + 1) s.size))) := by
      unfold domAt
      rw [decide_eq_true hc, Bool.true_and, nats_take, nats_drop]
     rw [hd] at hbk
     have c1 := fun W : World => host_any (s.extract 0 k) W (by rw [ByteArray.size_extract]; omega)
     have c2 := fun W : World => all_any enters_digit kind_digit (s.extract (k + 1) s.size) W (by rw [ByteArray.size_extract]; omega)
     obtain ⟨b1, hb1⟩ : ∃ b1, b1 = hostF (nats (s.extract 0 k)) := ⟨_, rfl⟩
     obtain ⟨b2, hb2⟩ : ∃ b2, b2 = allF dig (nats (s.extract (k + 1) s.size)) := ⟨_, rfl⟩
     rw [← hb1] at c1 hbk
     rw [← hb2] at c2 hbk
     have C1 := Lib.hid c1
     have C2 := Lib.hid c2
     have HBK := Lib.hid hbk
     clear c1 c2 hbk hb1 hb2 hd hc hb
     cases b1 with
     | false =>
      go_wp2_with (first | (go_at_call 58; (with_reducible refine (C1.out _).mono ?_); rintro e w1 ⟨rfl, y1, rfl⟩) | (go_at_call 54; (with_reducible refine (C2.out _).mono ?_); rintro e w1 ⟨rfl, y2, rfl⟩))
      exact ⟨⟨k + 1, by simp, by omega, by rw [HBK.out, Bool.false_and, Bool.false_or], Ext.both x y1⟩, by simp [intOf]; omega⟩
     | true =>
      cases b2 with
      | false =>
       go_wp2_with (first | (go_at_call 58; (with_reducible refine (C1.out _).mono ?_); rintro e w1 ⟨rfl, y1, rfl⟩) | (go_at_call 54; (with_reducible refine (C2.out _).mono ?_); rintro e w1 ⟨rfl, y2, rfl⟩))
       exact ⟨⟨k + 1, by simp, by omega, by rw [HBK.out, Bool.and_false, Bool.false_or], Ext.both x (y1.trans y2)⟩, by simp [intOf]; omega⟩
      | true =>
       go_wp2_with (first | (go_at_call 58; (with_reducible refine (C1.out _).mono ?_); rintro e w1 ⟨rfl, y1, rfl⟩) | (go_at_call 54; (with_reducible refine (C2.out _).mono ?_); rintro e w1 ⟨rfl, y2, rfl⟩))
       go_ret
       exact ⟨by rw [HBK.out]; rfl, Ext.both x (y1.trans y2)⟩
    ·have g1 := at_ne s k hlt 58 hc
     have hd : domAt (nats s) k = false := by
      unfold domAt
      rw [decide_eq_false hc, Bool.false_and]
     rw [hd, Bool.false_or] at hbk
     have HBK := Lib.hid hbk
     clear hbk hd hc hb
     go_wp2_with fail
     exact ⟨⟨k + 1, by simp, by omega, HBK.out, x, rfl⟩, by simp [intOf]; omega⟩
   ·have hkn : k = s.size := by omega
    subst hkn
    have hlt' : ¬ ((s.size : Int) < (s.size : Int)) := by omega
    have hbf : b = false := by rw [hbk, Nat.sub_self]; rfl
    subst hbf
    clear hb hbk
    go_wp2_with fail
    go_ret
    exact ⟨rfl, x, rfl⟩

end Go.Proofs.YtkbmigfkclnlaaaGreatDoor
namespace Go.Proofs.YtkbmigfkclnlaaaGreatDoor
open Go.RowKit Go.Rx
attribute [local go_sem] Ext.cell Ext.frozen Ext.lt Ext.lt_add Ext.cell2 Ext.frozen2

def NG (s d p : ByteArray) : Prop :=
 (nats s = nats d ++ 47 :: nats p ∧ Domain (nats d) ∧ Path (nats p)) ∨ (d = ByteArray.empty ∧ p = s ∧ Path (nats s) ∧ ∀ d' p', nats s = d' ++ 47 :: p' → Domain d' → Path p' → False)

theorem NG.name {s d p : ByteArray} (h : NG s d p) : NameL (nats s) := by
 rw [nameL_iff]
 rcases h with ⟨h1, h2, h3⟩ | ⟨_, _, h3, _⟩
 ·exact .inr ⟨_, _, h1, h2, h3⟩
 ·exact .inl h3

set_option maxRecDepth 100000 in
set_option maxHeartbeats 400000 in
theorem groups_name (s : ByteArray) (w : World) (hs : s.size < 100000000000) :
  Calls Tryz.prog 20 #[.string s] w fun e w' => ∃ (d p : ByteArray) (b : Bool), e = .returned (.tuple #[.string d, .string p, .bool b]) ∧ (b = true → NG s d p) ∧ (NameL (nats s) → b = true) ∧ ∃ y : Ext w, w' = y.now := by
 have h1 := Lib.hid (first_lit s 47 47 rfl w hs)
 have hp := fun W : World => path_any s W hs
 obtain ⟨bp, hbp⟩ : ∃ bp, bp = pathF (nats s) := ⟨_, rfl⟩
 rw [← hbp] at hp
 have HP := Lib.hid hp
 clear hp
 rcases firstF_split 47 (nats s) with ⟨hneg, hno⟩ | ⟨a, b, hr, hno, hlen⟩
 ·rw [hneg] at h1
  have hng : bp = true → NG s ByteArray.empty s := by
   intro h
   rw [hbp] at h
   refine .inr ⟨rfl, rfl, (pathF_iff _).1 h, fun d' p' he _ _ => hno ?_⟩
   rw [he]
   simp
  have hall : NameL (nats s) → bp = true := by
   intro h
   rw [hbp]
   rcases (nameL_iff _).1 h with h | ⟨d, p, h, _, _⟩
   ·exact (pathF_iff _).2 h
   ·exact absurd (by rw [h]; simp) hno
  have HNG := Lib.hid hng
  have HALL := Lib.hid hall
  clear hbp hno hneg hng hall
  cases bp with
  | true =>
   go_enter Tryz.func20, Tryz.ntmps20
   go_wp2_with (first | (go_at_call 7; (with_reducible refine h1.out.mono ?_); rintro e w1 ⟨rfl, rfl⟩) | (go_at_call 37; (with_reducible refine (HP.out _).mono ?_); rintro e w1 ⟨rfl, y, rfl⟩))
   go_ret3
   exact ⟨_, _, _, rfl, fun _ => HNG.out trivial, fun _ => rfl, y, rfl⟩
  | false =>
   go_enter Tryz.func20, Tryz.ntmps20
   go_wp2_with (first | (go_at_call 7; (with_reducible refine h1.out.mono ?_); rintro e w1 ⟨rfl, rfl⟩) | (go_at_call 37; (with_reducible refine (HP.out _).mono ?_); rintro e w1 ⟨rfl, y, rfl⟩))
   go_ret3
   exact ⟨_, _, _, rfl, fun h => by simp at h, HALL.out, y, rfl⟩
 ·have hl := nats_length s
  rw [hlen] at h1
  have hal : a.length < s.size := by
   rw [hr] at hl
   simp at hl
   omega
  have h0 : (0 : Int) ≤ ((a.length : Nat) : Int) := by omega
  have h2 : ((a.length : Nat) : Int) ≤ (s.size : Int) := by omega
  have h3 : ((a.length : Nat) : Int) + 1 ≤ (s.size : Int) := by omega
  have h4 : (0 : Int) ≤ ((a.length : Nat) : Int) + 1 := by omega
  have h5 : (((a.length : Nat) : Int) + 1).toNat = a.length + 1 := by omega
  have h6 : IntKind.i64.wrap (((a.length : Nat) : Int) + 1) = ((a.length : Nat) : Int) + 1 := by rw [Go.IntWalk.i64_left]; exact Go.IntWalk.wrap64_in _ (by omega)
  have na : nats (s.extract 0 a.length) = a := by rw [nats_take, hr]; simp
  have nb : nats (s.extract (a.length + 1) s.size) = b := by rw [nats_drop, hr, List.append_cons, List.drop_append_of_le_length (by simp)]; simp
  have c1 := fun W : World => domain_any (s.extract 0 a.length) W (by rw [ByteArray.size_extract]; omega)
  have c2 := fun W : World => path_any (s.extract (a.length + 1) s.size) W (by rw [ByteArray.size_extract]; omega)
  rw [na] at c1
  rw [nb] at c2
  obtain ⟨b1, hb1⟩ : ∃ b1, b1 = domF a := ⟨_, rfl⟩
  obtain ⟨b2, hb2⟩ : ∃ b2, b2 = pathF b := ⟨_, rfl⟩
  rw [← hb1] at c1
  rw [← hb2] at c2
  have hyes : b1 = true → b2 = true → NG s (s.extract 0 a.length) (s.extract (a.length + 1) s.size) := by
   intro h1 h2
   rw [hb1] at h1
   rw [hb2] at h2
   exact .inl ⟨by rw [na, nb, hr], by rw [na]; exact (domF_iff _).1 h1, by rw [nb]; exact (pathF_iff _).1 h2⟩
  have hnot : bp = true → (b1 && b2) = false → NG s ByteArray.empty s := by
   intro h hz
   rw [hbp] at h
   refine .inr ⟨rfl, rfl, (pathF_iff _).1 h, fun d' p' he hd hp => ?_⟩
   rw [hr] at he
   obtain ⟨e1, e2⟩ := cut_unique he hno (dom_no hd).2 (.inr ⟨_, rfl⟩) (.inr ⟨_, rfl⟩)
   simp at e2
   rw [← e1] at hd
   rw [← e2] at hp
   rw [hb1, hb2, (domF_iff _).2 hd, (pathF_iff _).2 hp] at hz
   cases hz
  have hall : NameL (nats s) → (b1 && b2) = true ∨ bp = true := by
   intro h
   rcases (nameL_iff _).1 h with h | ⟨d', p', he, hd, hp⟩
   ·exact .inr (by rw [hbp]; exact (pathF_iff _).2 h)
   ·rw [hr] at he
    obtain ⟨e1, e2⟩ := cut_unique he hno (dom_no hd).2 (.inr ⟨_, rfl⟩) (.inr ⟨_, rfl⟩)
    simp at e2
    rw [← e1] at hd
    rw [← e2] at hp
    exact .inl (by rw [hb1, hb2, (domF_iff _).2 hd, (pathF_iff _).2 hp]; rfl)
  have C1 := Lib.hid c1
  have C2 := Lib.hid c2
  have HY := Lib.hid hyes
  have HNO := Lib.hid hnot
  have HALL := Lib.hid hall
  clear c1 c2 hyes hnot hall hb1 hb2 hbp na nb hno hlen hr hl
  cases b1 with
  | true =>
   cases b2 with
   | true =>
    go_enter Tryz.func20, Tryz.ntmps20
    go_wp2_with (first | (go_at_call 7; (with_reducible refine h1.out.mono ?_); rintro e w1 ⟨rfl, rfl⟩) | (go_at_call 36; (with_reducible refine (C1.out _).mono ?_); rintro e w1 ⟨rfl, y1, rfl⟩) | (go_at_call 37; (with_reducible refine (C2.out _).mono ?_); rintro e w1 ⟨rfl, y2, rfl⟩) | (go_at_call 37; (with_reducible refine (HP.out _).mono ?_); rintro e w1 ⟨rfl, y, rfl⟩))
    have HZ := Lib.hid (Ext.both y1 (y2.trans (Ext.drewn _)))
    go_region_with fail
    go_simp
    go_wp2_with fail
    go_ret3
    exact ⟨_, _, _, rfl, fun _ => HY.out trivial trivial, fun _ => rfl, HZ.out⟩
   | false =>
    cases bp with
    | true =>
     go_enter Tryz.func20, Tryz.ntmps20
     go_wp2_with (first | (go_at_call 7; (with_reducible refine h1.out.mono ?_); rintro e w1 ⟨rfl, rfl⟩) | (go_at_call 36; (with_reducible refine (C1.out _).mono ?_); rintro e w1 ⟨rfl, y1, rfl⟩) | (go_at_call 37; (with_reducible refine (C2.out _).mono ?_); rintro e w1 ⟨rfl, y2, rfl⟩) | (go_at_call 37; (with_reducible refine (HP.out _).mono ?_); rintro e w1 ⟨rfl, y, rfl⟩))
     go_ret3
     exact ⟨_, _, _, rfl, fun _ => HNO.out trivial rfl, fun _ => rfl, Ext.both y1 (y2.trans y)⟩
    | false =>
     go_enter Tryz.func20, Tryz.ntmps20
     go_wp2_with (first | (go_at_call 7; (with_reducible refine h1.out.mono ?_); rintro e w1 ⟨rfl, rfl⟩) | (go_at_call 36; (with_reducible refine (C1.out _).mono ?_); rintro e w1 ⟨rfl, y1, rfl⟩) | (go_at_call 37; (with_reducible refine (C2.out _).mono ?_); rintro e w1 ⟨rfl, y2, rfl⟩) | (go_at_call 37; (with_reducible refine (HP.out _).mono ?_); rintro e w1 ⟨rfl, y, rfl⟩))
     go_ret3
     exact ⟨_, _, _, rfl, fun h => by simp at h, fun h => by have := HALL.out h; simp at this, Ext.both y1 (y2.trans y)⟩
  | false =>
   cases bp with
   | true =>
    go_enter Tryz.func20, Tryz.ntmps20
    go_wp2_with (first | (go_at_call 7; (with_reducible refine h1.out.mono ?_); rintro e w1 ⟨rfl, rfl⟩) | (go_at_call 36; (with_reducible refine (C1.out _).mono ?_); rintro e w1 ⟨rfl, y1, rfl⟩) | (go_at_call 37; (with_reducible refine (HP.out _).mono ?_); rintro e w1 ⟨rfl, y, rfl⟩))
    go_ret3
    exact ⟨_, _, _, rfl, fun _ => HNO.out trivial (by simp), fun _ => rfl, Ext.both y1 y⟩
   | false =>
    go_enter Tryz.func20, Tryz.ntmps20
    go_wp2_with (first | (go_at_call 7; (with_reducible refine h1.out.mono ?_); rintro e w1 ⟨rfl, rfl⟩) | (go_at_call 36; (with_reducible refine (C1.out _).mono ?_); rintro e w1 ⟨rfl, y1, rfl⟩) | (go_at_call 37; (with_reducible refine (HP.out _).mono ?_); rintro e w1 ⟨rfl, y, rfl⟩))
    go_ret3
    exact ⟨_, _, _, rfl, fun h => by simp at h, fun h => by have := HALL.out h; simp at this, Ext.both y1 y⟩

theorem isName_any (s : ByteArray) (w : World) (hs : s.size < 100000000000) :
  Calls Tryz.prog 34 #[.string s] w fun e w' => ∃ b : Bool, e = .returned (.bool b) ∧ (b = true → NameL (nats s)) ∧ ∃ y : Ext w, w' = y.now := by
 have HG := Lib.hid (groups_name s w hs)
 go_enter Tryz.func34, Tryz.ntmps34
 go_wp2_with (first | (go_at_call 20; (with_reducible refine HG.out.mono ?_); rintro e w1 ⟨d, p, b, rfl, hng, _, y, rfl⟩))
 go_ret
 exact ⟨b, rfl, fun h => (hng h).name, y, rfl⟩

set_option maxRecDepth 100000 in
theorem isTag_any (s : ByteArray) (w : World) (hs : s.size < 100000000000) :
  Calls Tryz.prog 35 #[.string s] w fun e w' => ∃ b : Bool, e = .returned (.bool b) ∧ (b = true → Tag (nats s)) ∧ ∃ y : Ext w, w' = y.now := by
 have hl := nats_length s
 have h1 := all_any enters_tch kind_tch s w hs
 obtain ⟨b1, hb1⟩ : ∃ b1, b1 = allF tch (nats s) := ⟨_, rfl⟩
 rw [← hb1] at h1
 have H1 := Lib.hid h1
 clear h1
 by_cases ha : s.size ≤ 128
 ·have g1 : (s.size : Int) ≤ 128 := by omega
  cases b1 with
  | false =>
   clear hb1
   go_enter Tryz.func35, Tryz.ntmps35
   go_wp2_with (first | (go_at_call 54; (with_reducible refine H1.out.mono ?_); rintro e w1 ⟨rfl, y, rfl⟩))
   go_ret
   exact ⟨false, rfl, fun h => by simp at h, y, rfl⟩
  | true =>
   have hall : AllOf tch (nats s) := by
    unfold allF at hb1
    simpa [AllOf] using hb1.symm
   have hpos : 0 < s.size := by rw [← hl]; exact List.length_pos_iff.2 hall.1
   have hpos' : (0 : Int) < (s.size : Int) := by omega
   have a0 := nats_at s 0 hpos
   have c2 := fun W : World => kind_word ((s[0]'hpos).toNat) W
   obtain ⟨b2, hb2⟩ : ∃ b2, b2 = wrd ((s[0]'hpos).toNat) := ⟨_, rfl⟩
   rw [← hb2] at c2
   have hyes : b2 = true → Tag (nats s) := by
    intro h
    refine (tag_iff _).2 ⟨by rw [hl]; exact ha, hall, (s[0]'hpos).toNat, ?_, by rw [← hb2]; exact h⟩
    rw [← a0]
    cases hq : nats s with
    | nil => rw [hq] at hl; simp at hl; omega
    | cons x r => rfl
   have C2 := Lib.hid c2
   have HY := Lib.hid hyes
   clear c2 hyes hb1 hb2 hall a0
   go_enter Tryz.func35, Tryz.ntmps35
   go_wp2_with (first | (go_at_call 54; (with_reducible refine H1.out.mono ?_); rintro e w1 ⟨rfl, y, rfl⟩) | (go_at_call 57; (with_reducible refine (C2.out _).mono ?_); rintro e w1 ⟨rfl, y2, rfl⟩))
   go_ret
   exact ⟨b2, rfl, HY.out, Ext.both y y2⟩
 ·have g1 : ¬ (s.size : Int) ≤ 128 := by omega
  clear hb1 hl
  go_enter Tryz.func35, Tryz.ntmps35
  go_wp2_with fail
  go_ret
  exact .inl ⟨rfl, Ext.here _⟩

end Go.Proofs.YtkbmigfkclnlaaaGreatDoor
namespace Go.Proofs.YtkbmigfkclnlaaaGreatDoor
open Go.RowKit Go.Rx
attribute [local go_sem] Ext.cell Ext.frozen Ext.lt Ext.lt_add Ext.cell2 Ext.frozen2

theorem algF_at {l : List Nat} {i : Nat} (b : Bool) (h : i < l.length) :
  algF b (l.drop i) = if asp (l.getD i 0) = true then (if b = true then false else algF true (l.drop (i + 1))) else if ((b && (!aln (l.getD i 0) || dig (l.getD i 0))) || !aln (l.getD i 0)) = true then false else algF false (l.drop (i + 1)) := by
 rw [List.drop_eq_getElem_cons h, algF, List.getD_eq_getElem?_getD, List.getElem?_eq_getElem h]
 rfl

set_option maxRecDepth 100000 in
set_option maxHeartbeats 1000000 in
theorem alg_any : KindS 53 (algF true) := by
 intro s w hs
 have hl := nats_length s
 obtain ⟨b, hb⟩ : ∃ b, b = algF true (nats s) := ⟨_, rfl⟩
 rw [← hb]
 go_enter Tryz.func53, Tryz.ntmps53
 go_wp2_with fail
 go_loopw [3, 4] (fun t3 t4 wr => ∃ (q : Bool) (k : Nat), t3 = .bool q ∧ t4 = .int .i64 k ∧ k ≤ s.size ∧ b = algF q ((nats s).drop k) ∧ ∃ x : Ext w, wr = x.now) (fun _ t _ => s.size - (intOf t).toNat)
 case atStart => exact ⟨true, 0, rfl, rfl, Nat.zero_le _, by rw [hb, List.drop_zero], Ext.here _⟩
 case round =>
  obtain ⟨q, k, rfl, rfl, hks, hbk, x, rfl⟩ := hrel
  by_cases hlt : k < s.size
  ·have hlt' : (k : Int) < (s.size : Int) := by omega
   have h0 : (0 : Int) ≤ (k : Int) := by omega
   rw [algF_at q (by rw [hl]; exact hlt), nats_at s k hlt] at hbk
   obtain ⟨c, hc⟩ : ∃ c, c = (s[k]'hlt).toNat := ⟨_, rfl⟩
   have hcu : (((s[k]'hlt).toNat : Nat) : Int) = (c : Int) := by rw [hc]
   rw [← hc] at hbk
   have c1 := fun W : World => kind_alnum c W
   have c2 := fun W : World => kind_digit c W
   by_cases ha : asp c = true
   ·rw [if_pos ha] at hbk
    have hor : (c : Int) = 43 ∨ (c : Int) = 46 ∨ (c : Int) = 45 ∨ (c : Int) = 95 := by
     simp [asp, is] at ha
     omega
    cases q with
    | true =>
     have hbf : b = false := by rw [hbk]; rfl
     subst hbf
     clear hbk hb hc ha c1 c2
     by_cases e1 : (c : Int) = 43
     ·clear hor
      rw [e1] at hcu
      go_wp2_with fail
      go_ret
      exact ⟨rfl, x, rfl⟩
     by_cases e2 : (c : Int) = 46
     ·clear hor e1
      rw [e2] at hcu
      go_wp2_with fail
      go_ret
      exact ⟨rfl, x, rfl⟩
     by_cases e3 : (c : Int) = 45
     ·clear hor e1 e2
      rw [e3] at hcu
      go_wp2_with fail
      go_ret
      exact ⟨rfl, x, rfl⟩
     have e4 : (c : Int) = 95 := by omega
     clear hor e1 e2 e3
     rw [e4] at hcu
     go_wp2_with fail
     go_ret
     exact ⟨rfl, x, rfl⟩
    | false =>
     have hbf : b = algF true ((nats s).drop (k + 1)) := hbk
     have HBF := Lib.hid hbf
     clear hbk hbf hb hc ha c1 c2
     by_cases e1 : (c : Int) = 43
     ·clear hor
      rw [e1] at hcu
      go_wp2_with fail
      exact ⟨⟨true, k + 1, rfl, by simp, by omega, HBF.out, x, rfl⟩, by simp [intOf]; omega⟩
     by_cases e2 : (c : Int) = 46
     ·clear hor e1
      rw [e2] at hcu
      go_wp2_with fail
      exact ⟨⟨true, k + 1, rfl, by simp, by omega, HBF.out, x, rfl⟩, by simp [intOf]; omega⟩
     by_cases e3 : (c : Int) = 45
     ·clear hor e1 e2
      rw [e3] at hcu
      go_wp2_with fail
      exact ⟨⟨true, k + 1, rfl, by simp, by omega, HBF.out, x, rfl⟩, by simp [intOf]; omega⟩
     have e4 : (c : Int) = 95 := by omega
     clear hor e1 e2 e3
     rw [e4] at hcu
     go_wp2_with fail
     exact ⟨⟨true, k + 1, rfl, by simp, by omega, HBF.out, x, rfl⟩, by simp [intOf]; omega⟩
   ·rw [if_neg ha] at hbk
    have hnot : ¬ (c : Int) = 43 ∧ ¬ (c : Int) = 46 ∧ ¬ (c : Int) = 45 ∧ ¬ (c : Int) = 95 := by
     simp [asp, is] at ha
     omega
    have e1 : ((c : Int) == 43) = false := beq_eq_false_iff_ne.2 hnot.1
    have e2 : ((c : Int) == 46) = false := beq_eq_false_iff_ne.2 hnot.2.1
    have e3 : ((c : Int) == 45) = false := beq_eq_false_iff_ne.2 hnot.2.2.1
    have e4 : ((c : Int) == 95) = false := beq_eq_false_iff_ne.2 hnot.2.2.2
    clear hnot
    obtain ⟨p1, hp1⟩ : ∃ p1, p1 = aln c := ⟨_, rfl⟩
    obtain ⟨p2, hp2⟩ : ∃ p2, p2 = dig c := ⟨_, rfl⟩
    rw [← hp1] at c1 hbk
    rw [← hp2] at c2 hbk
    have C1 := Lib.hid c1
    have C2 := Lib.hid c2
    have HC := Lib.hid hc
    clear c1 c2 hb ha hp1 hp2 hc
    cases q with
    | true =>
     cases p1 with
     | false =>
      have hbf : b = false := by rw [hbk]; rfl
      subst hbf
      clear hbk
      go_wp2_with (first | (go_at_call 75; (with_reducible refine (C1.out _).mono ?_); rintro e w1 ⟨rfl, y1, rfl⟩) | (go_at_call 59; (with_reducible refine (C2.out _).mono ?_); rintro e w1 ⟨rfl, y2, rfl⟩))
      go_ret
      exact ⟨rfl, Ext.both x y1⟩
     | true =>
      cases p2 with
      | true =>
       have hbf : b = false := by rw [hbk]; rfl
       subst hbf
       clear hbk
       go_wp2_with (first | (go_at_call 75; (with_reducible refine (C1.out _).mono ?_); rintro e w1 ⟨rfl, y1, rfl⟩) | (go_at_call 59; (with_reducible refine (C2.out _).mono ?_); rintro e w1 ⟨rfl, y2, rfl⟩))
       go_ret
       exact ⟨rfl, Ext.both x (y1.trans y2)⟩
      | false =>
       have hbf : b = algF false ((nats s).drop (k + 1)) := hbk
       have HBF := Lib.hid hbf
       clear hbk hbf
       go_wp2_with (first | (go_at_call 75; (with_reducible refine (C1.out _).mono ?_); rintro e w1 ⟨rfl, y1, rfl⟩) | (go_at_call 59; (with_reducible refine (C2.out _).mono ?_); rintro e w1 ⟨rfl, y2, rfl⟩))
       exact ⟨⟨false, k + 1, rfl, by simp, by omega, HBF.out, Ext.both x (Ext.trans (Ext.trans _ y2) y1)⟩, by simp [intOf]; omega⟩
    | false =>
     cases p1 with
     | false =>
      have hbf : b = false := by rw [hbk]; rfl
      subst hbf
      clear hbk
      go_wp2_with (first | (go_at_call 75; (with_reducible refine (C1.out _).mono ?_); rintro e w1 ⟨rfl, y1, rfl⟩) | (go_at_call 59; (with_reducible refine (C2.out _).mono ?_); rintro e w1 ⟨rfl, y2, rfl⟩))
      go_ret
      exact ⟨rfl, Ext.both x y1⟩
     | true =>
      have hbf : b = algF false ((nats s).drop (k + 1)) := hbk
      have HBF := Lib.hid hbf
      clear hbk hbf
      go_wp2_with (first | (go_at_call 75; (with_reducible refine (C1.out _).mono ?_); rintro e w1 ⟨rfl, y1, rfl⟩) | (go_at_call 59; (with_reducible refine (C2.out _).mono ?_); rintro e w1 ⟨rfl, y2, rfl⟩))
      exact ⟨⟨false, k + 1, rfl, by simp, by omega, HBF.out, Ext.both x y1⟩, by simp [intOf]; omega⟩
  ·have hkn : k = s.size := by omega
   subst hkn
   have hlt' : ¬ ((s.size : Int) < (s.size : Int)) := by omega
   have hbf : b = !q := by rw [hbk, List.drop_eq_nil_of_le (by rw [hl]; exact Nat.le_refl _)]; rw [algF]
   subst hbf
   clear hb hbk
   go_wp2_with fail
   go_ret
   exact ⟨rfl, x, rfl⟩

theorem dig_of {a h : List Nat} (ha : algF true a = true) (hl : 32 ≤ h.length) (hx : ∀ x ∈ h, hex x = true) : Dig (a ++ 58 :: h) := by
 refine ⟨a, 58 :: h, rfl, (algF_ok a).1 ha, [58], h, rfl, ⟨58, rfl, rfl⟩, h.take 31, h.drop 31, (List.take_append_drop _ _).symm, (times_iff _ _ _).2 ⟨by rw [List.length_take]; omega, fun x hm => hx x (List.mem_of_mem_take hm)⟩, (plus_one _ _).2 ⟨?_, fun x hm => hx x (List.mem_of_mem_drop hm)⟩⟩
 intro e
 have := congrArg List.length e
 simp at this
 omega

set_option maxRecDepth 100000 in
set_option maxHeartbeats 1000000 in
theorem isDigest_any (s : ByteArray) (w : World) (hs : s.size < 100000000000) :
  Calls Tryz.prog 33 #[.string s] w fun e w' => ∃ b : Bool, e = .returned (.bool b) ∧ (b = true → Dig (nats s)) ∧ ∃ y : Ext w, w' = y.now := by
 have h1 := Lib.hid (first_lit s 58 58 rfl w hs)
 rcases firstF_split 58 (nats s) with ⟨hneg, hno⟩ | ⟨a, b, hr, hno, hlen⟩
 ·rw [hneg] at h1
  clear hno hneg
  go_enter Tryz.func33, Tryz.ntmps33
  go_wp2_with (first | (go_at_call 7; (with_reducible refine h1.out.mono ?_); rintro e w1 ⟨rfl, rfl⟩))
  go_ret
  exact ⟨false, rfl, fun h => by simp at h, Ext.here _⟩
 ·have hl := nats_length s
  rw [hlen] at h1
  have hal : a.length < s.size := by
   rw [hr] at hl
   simp at hl
   omega
  have hbl : b.length = s.size - (a.length + 1) := by
   rw [hr] at hl
   simp at hl
   omega
  have h0 : (0 : Int) ≤ ((a.length : Nat) : Int) := by omega
  have h2 : ((a.length : Nat) : Int) ≤ (s.size : Int) := by omega
  have h3 : ((a.length : Nat) : Int) + 1 ≤ (s.size : Int) := by omega
  have h4 : (0 : Int) ≤ ((a.length : Nat) : Int) + 1 := by omega
  have h5 : (((a.length : Nat) : Int) + 1).toNat = a.length + 1 := by omega
  have na : nats (s.extract 0 a.length) = a := by rw [nats_take, hr]; simp
  have nb : nats (s.extract (a.length + 1) s.size) = b := by rw [nats_drop, hr, List.append_cons, List.drop_append_of_le_length (by simp)]; simp
  have c1 := fun W : World => alg_any (s.extract 0 a.length) W (by rw [ByteArray.size_extract]; omega)
  have c2 := fun W : World => all_any enters_hex kind_hex (s.extract (a.length + 1) s.size) W (by rw [ByteArray.size_extract]; omega)
  rw [na] at c1
  rw [nb] at c2
  obtain ⟨b1, hb1⟩ : ∃ b1, b1 = algF true a := ⟨_, rfl⟩
  obtain ⟨b2, hb2⟩ : ∃ b2, b2 = allF hex b := ⟨_, rfl⟩
  rw [← hb1] at c1
  rw [← hb2] at c2
  have hyes : b1 = true → 32 ≤ b.length → b2 = true → Dig (nats s) := by
   intro g1 g2 g3
   rw [hb1] at g1
   rw [hb2] at g3
   rw [hr]
   refine dig_of g1 g2 ?_
   unfold allF at g3
   simp at g3
   exact g3.2
  have C1 := Lib.hid c1
  have C2 := Lib.hid c2
  have HY := Lib.hid hyes
  clear c1 c2 hyes hb1 hb2 na nb hno hlen hr hl
  cases b1 with
  | false =>
   go_enter Tryz.func33, Tryz.ntmps33
   go_wp2_with (first | (go_at_call 7; (with_reducible refine h1.out.mono ?_); rintro e w1 ⟨rfl, rfl⟩) | (go_at_call 53; (with_reducible refine (C1.out _).mono ?_); rintro e w1 ⟨rfl, y1, rfl⟩))
   go_ret
   exact ⟨false, rfl, fun h => by simp at h, y1, rfl⟩
  | true =>
   by_cases hb32 : 32 ≤ b.length
   ·have q1 : (32 : Int) ≤ (s.size : Int) - ((a.length : Nat) : Int) - 1 := by omega
    go_enter Tryz.func33, Tryz.ntmps33
    go_wp2_with (first | (go_at_call 7; (with_reducible refine h1.out.mono ?_); rintro e w1 ⟨rfl, rfl⟩) | (go_at_call 53; (with_reducible refine (C1.out _).mono ?_); rintro e w1 ⟨rfl, y1, rfl⟩) | (go_at_call 54; (with_reducible refine (C2.out _).mono ?_); rintro e w1 ⟨rfl, y2, rfl⟩))
    go_ret
    exact ⟨b2, rfl, HY.out trivial hb32, Ext.both y1 y2⟩
   ·have q1 : ¬ (32 : Int) ≤ (s.size : Int) - ((a.length : Nat) : Int) - 1 := by omega
    go_enter Tryz.func33, Tryz.ntmps33
    go_wp2_with (first | (go_at_call 7; (with_reducible refine h1.out.mono ?_); rintro e w1 ⟨rfl, rfl⟩) | (go_at_call 53; (with_reducible refine (C1.out _).mono ?_); rintro e w1 ⟨rfl, y1, rfl⟩))
    go_ret
    exact .inl ⟨rfl, y1, rfl⟩

end Go.Proofs.YtkbmigfkclnlaaaGreatDoor
