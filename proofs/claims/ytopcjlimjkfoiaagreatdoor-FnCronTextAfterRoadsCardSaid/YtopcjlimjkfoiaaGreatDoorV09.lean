/-
FnCronTextAfterRoads: the calendar, the schedules, their texts and the zones, part 9 of 34.
-/
import Derived.Test.YtopcjlimjkfoiaaGreatDoorV08
import Derived.Handy
import Derived.Test.YtopcjlimjkfoiaaGreatDoorV05
import Derived.Deep.AppendLies
import Derived.Maps.AppendAt
set_option linter.all false
namespace Go.Proofs.YtopcjlimjkfoiaaGreatDoor
open Go.RowKit
attribute [local go_sem] Ext.cell Ext.frozen Ext.lt Ext.lt_add Ext.cell2 Ext.frozen2

def foreign (l : List Nat) : Bool := l.any fun c => decide (128 ≤ c)

theorem getD_mem {l : List Nat} {i : Nat} (h : i < l.length) : l.getD i 0 ∈ l := by
  rw [List.getD_eq_getElem?_getD, List.getElem?_eq_getElem h]
  exact List.getElem_mem h

theorem mem_getD {l : List Nat} {x : Nat} (h : x ∈ l) : ∃ i, i < l.length ∧ l.getD i 0 = x := by
  obtain ⟨i, hi, e⟩ := List.getElem_of_mem h
  exact ⟨i, hi, by rw [List.getD_eq_getElem?_getD, List.getElem?_eq_getElem hi]; exact e⟩

theorem foreign_true {l : List Nat} {i : Nat} (h : i < l.length) (c : 128 ≤ l.getD i 0) : foreign l = true :=
  List.any_eq_true.2 ⟨_, getD_mem h, decide_eq_true c⟩

theorem foreign_false {l : List Nat} (h : ∀ i, i < l.length → l.getD i 0 < 128) : foreign l = false := by
  rw [foreign, List.any_eq_false]
  intro x hx
  obtain ⟨i, hi, rfl⟩ := mem_getD hx
  have := h i hi
  exact fun q => absurd (of_decide_eq_true q) (by omega)

theorem foreign_mem {l : List Nat} (h : foreign l = false) : ∀ x ∈ l, x < 128 := by
  intro x hx
  have h2 := (List.any_eq_false.1 h) x hx
  have : ¬ 128 ≤ x := fun q => h2 (decide_eq_true q)
  omega

set_option maxRecDepth 100000 in
theorem foreign_any (s : ByteArray) (w : World) (hs : s.size < 100000000000) :
    Calls Tryz.prog 25 #[.string s] w fun e w' => e = .returned (.bool (foreign (nats s))) ∧ w' = w := by
  go_enter Tryz.func25, Tryz.ntmps25
  go_wp2_with fail
  go_loopw [6] (fun t wr => ∃ i : Nat, t = .int .i64 i ∧ i ≤ s.size ∧ (∀ j, j < i → (nats s).getD j 0 < 128) ∧ wr = w) (fun t _ => s.size - (intOf t).toNat)
  case atStart => exact ⟨0, rfl, Nat.zero_le _, fun j h => absurd h (Nat.not_lt_zero _), rfl⟩
  case round =>
    obtain ⟨i, rfl, hi, hall, rfl⟩ := hrel
    have h0 : (0 : Int) ≤ (i : Int) := by omega
    have HALL := Lib.hid hall
    clear hall
    by_cases hlt : i < s.size
    · have hlt' : (i : Int) < (s.size : Int) := by omega
      have hat := nats_at s i hlt
      have HAT := Lib.hid hat
      clear hat
      by_cases hc : 128 ≤ (s[i]'hlt).toNat
      · have hc' : (128 : Int) ≤ ((s[i]'hlt).toNat : Int) := by omega
        go_wp2_with fail
        go_ret
        rw [foreign_true (i := i) (by rw [nats_length]; exact hlt) (by rw [HAT.out]; exact hc)]
        exact ⟨rfl, rfl⟩
      · have hc' : ¬ (128 : Int) ≤ ((s[i]'hlt).toNat : Int) := by omega
        go_wp2_with fail
        refine ⟨⟨i + 1, by simp, by omega, fun j hj => ?_, trivial⟩, by simp [intOf]; omega⟩
        by_cases e : j = i
        · subst e; rw [HAT.out]; omega
        · exact HALL.out j (by omega)
    · have hlt' : ¬ (i : Int) < (s.size : Int) := by omega
      go_wp2_with fail
      go_ret
      rw [foreign_false (fun j hj => HALL.out j (by rw [nats_length] at hj; omega))]
      exact ⟨rfl, rfl⟩

def begins (l p : List Nat) : Bool := decide (l.take p.length = p)

set_option maxRecDepth 100000 in
theorem begins_any (s p : ByteArray) (w : World) (hs : s.size < 100000000000) (hp : p.size < 100000000000) :
    Calls Tryz.prog 18 #[.string s, .string p] w fun e w' => e = .returned (.bool (begins (nats s) (nats p))) ∧ w' = w := by
  by_cases h : p.size ≤ s.size
  · have h' : (p.size : Int) ≤ (s.size : Int) := by omega
    have h0 : (0 : Int) ≤ (p.size : Int) := by omega
    have e : begins (nats s) (nats p) = ((s.extract 0 p.size).toList == p.toList) := by
      rw [beq_nats, nats_take, ← nats_length p]; rfl
    rw [e]
    go_enter Tryz.func18, Tryz.ntmps18
    go_wp2_with fail
    go_ret
    exact ⟨rfl, rfl⟩
  · have h' : ¬ (p.size : Int) ≤ (s.size : Int) := by omega
    have e : begins (nats s) (nats p) = false := by
      refine decide_eq_false fun q => ?_
      have := congrArg List.length q
      rw [List.length_take, nats_length, nats_length] at this
      omega
    rw [e]
    go_enter Tryz.func18, Tryz.ntmps18
    go_wp2_with fail
    go_ret
    exact ⟨rfl, rfl⟩

def zoneHead (l : List Nat) : Nat := if begins l [84, 90, 61] then 3 else if begins l [67, 82, 79, 78, 95, 84, 90, 61] then 8 else 0

set_option maxRecDepth 100000 in
theorem zoneHead_any (s : ByteArray) (w : World) (hs : s.size < 100000000000) :
    Calls Tryz.prog 6 #[.string s] w fun e w' => e = .returned (.int .i64 (zoneHead (nats s) : Nat)) ∧ w' = w := by
  obtain ⟨r, hr⟩ : ∃ r, r = zoneHead (nats s) := ⟨_, rfl⟩
  rw [← hr]
  have HR := Lib.hid hr
  clear hr
  unfold zoneHead at HR
  have H1 := Lib.hid (fun w => begins_any s ⟨#[84, 90, 61]⟩ w hs (by decide))
  have H2 := Lib.hid (fun w => begins_any s ⟨#[67, 82, 79, 78, 95, 84, 90, 61]⟩ w hs (by decide))
  rw [show nats ⟨#[84, 90, 61]⟩ = [84, 90, 61] from rfl] at H1
  rw [show nats ⟨#[67, 82, 79, 78, 95, 84, 90, 61]⟩ = [67, 82, 79, 78, 95, 84, 90, 61] from rfl] at H2
  have x0 : ∀ w : World, (Instr.index 56 (.agg #[.string ⟨#[84, 90, 61]⟩, .string ⟨#[67, 82, 79, 78, 95, 84, 90, 61]⟩]) (.int .i64 0)).run Tryz.prog w = .ok (.string ⟨#[84, 90, 61]⟩) w := fun _ => by kernel_rfl
  have x1 : ∀ w : World, (Instr.index 56 (.agg #[.string ⟨#[84, 90, 61]⟩, .string ⟨#[67, 82, 79, 78, 95, 84, 90, 61]⟩]) (.int .i64 1)).run Tryz.prog w = .ok (.string ⟨#[67, 82, 79, 78, 95, 84, 90, 61]⟩) w := fun _ => by kernel_rfl
  generalize begins (nats s) [84, 90, 61] = b1 at *
  generalize begins (nats s) [67, 82, 79, 78, 95, 84, 90, 61] = b2 at *
  go_enter Tryz.func6, Tryz.ntmps6
  go_wp2_with fail
  go_loopw [6] (fun t wr => (t = .int .i64 0 ∨ (t = .int .i64 1 ∧ b1 = false) ∨ (t = .int .i64 2 ∧ b1 = false ∧ b2 = false)) ∧ wr = w) (fun t _ => 2 - (intOf t).toNat)
  case atStart => exact ⟨.inl rfl, rfl⟩
  case round =>
    obtain ⟨rfl | ⟨rfl, rfl⟩ | ⟨rfl, rfl, rfl⟩, rfl⟩ := hrel
    · cases b1
      · go_wp2_with (go_at_call 18; (with_reducible refine (H1.out _).mono ?_); rintro e w1 ⟨rfl, rfl⟩)
        exact ⟨⟨by simp, trivial⟩, by simp [intOf]⟩
      · go_wp2_with (go_at_call 18; (with_reducible refine (H1.out _).mono ?_); rintro e w1 ⟨rfl, rfl⟩)
        go_ret
        exact ⟨by rw [HR.out]; rfl, rfl⟩
    · cases b2
      · go_wp2_with (go_at_call 18; (with_reducible refine (H2.out _).mono ?_); rintro e w1 ⟨rfl, rfl⟩)
        exact ⟨⟨by simp, trivial⟩, by simp [intOf]⟩
      · go_wp2_with (go_at_call 18; (with_reducible refine (H2.out _).mono ?_); rintro e w1 ⟨rfl, rfl⟩)
        go_ret
        exact ⟨by rw [HR.out]; rfl, rfl⟩
    · go_wp2_with fail
      go_ret
      exact ⟨by rw [HR.out]; rfl, rfl⟩

def noAnswer (l : List Nat) : Bool := !l.contains 32 && decide (0 < zoneHead l)

set_option maxRecDepth 100000 in
theorem noAnswer_any (s : ByteArray) (w : World) (hs : s.size < 100000000000) :
    Calls Tryz.prog 22 #[.string s] w fun e w' => e = .returned (.bool (noAnswer (nats s))) ∧ w' = w := by
  have HZ := Lib.hid (zoneHead_any s w hs)
  have HN := Lib.hid (show noAnswer (nats s) = (!(nats s).contains 32 && decide (0 < zoneHead (nats s))) from rfl)
  generalize zoneHead (nats s) = z at *
  generalize noAnswer (nats s) = r at *
  go_enter Tryz.func22, Tryz.ntmps22
  go_wp2_with fail
  go_loopw [6] (fun t wr => ∃ i : Nat, t = .int .i64 i ∧ i ≤ s.size ∧ (∀ j, j < i → (nats s).getD j 0 ≠ 32) ∧ wr = w) (fun t _ => s.size - (intOf t).toNat)
  case atStart => exact ⟨0, rfl, Nat.zero_le _, fun j h => absurd h (Nat.not_lt_zero _), rfl⟩
  case round =>
    obtain ⟨i, rfl, hi, hall, rfl⟩ := hrel
    have h0 : (0 : Int) ≤ (i : Int) := by omega
    have HALL := Lib.hid hall
    clear hall
    by_cases hlt : i < s.size
    · have hlt' : (i : Int) < (s.size : Int) := by omega
      have HAT := Lib.hid (nats_at s i hlt)
      by_cases hc : (s[i]'hlt).toNat = 32
      · have hc' : (((s[i]'hlt).toNat : Int) == 32) = true := beq_iff_eq.2 (by omega)
        go_wp2_with fail
        go_ret
        have hm : (nats s).contains 32 = true := by
          rw [List.contains_iff_mem]
          have := getD_mem (l := nats s) (i := i) (by rw [nats_length]; exact hlt)
          rw [HAT.out, hc] at this
          exact this
        exact ⟨by rw [HN.out, hm]; rfl, rfl⟩
      · have hc' : (((s[i]'hlt).toNat : Int) == 32) = false := beq_eq_false_iff_ne.2 (by omega)
        go_wp2_with fail
        refine ⟨⟨i + 1, by simp, by omega, fun j hj => ?_, trivial⟩, by simp [intOf]; omega⟩
        by_cases e : j = i
        · subst e; rw [HAT.out]; exact hc
        · exact HALL.out j (by omega)
    · have hlt' : ¬ (i : Int) < (s.size : Int) := by omega
      have hm : (nats s).contains 32 = false := by
        rw [List.contains_eq_mem, decide_eq_false_iff_not]
        intro hx
        obtain ⟨j, hj, e⟩ := mem_getD hx
        rw [nats_length] at hj
        exact HALL.out j (by omega) e
      have HM := Lib.hid hm
      clear hm
      go_wp2_with (go_at_call 6; (with_reducible refine HZ.out.mono ?_); rintro e w1 ⟨rfl, rfl⟩)
      go_ret
      exact ⟨by show Ending.returned (Value.bool (decide (0 < z))) = _; rw [HN.out, HM.out]; rfl, rfl⟩

end Go.Proofs.YtopcjlimjkfoiaaGreatDoor
namespace Go.Proofs.YtopcjlimjkfoiaaGreatDoor
open Go.RowKit
attribute [local go_sem] Ext.cell Ext.frozen Ext.lt Ext.lt_add Ext.cell2 Ext.frozen2

def rtrim (l : List Nat) : List Nat := (l.reverse.dropWhile blank).reverse
def trimL (l : List Nat) : List Nat := rtrim (l.dropWhile blank)

theorem rtrim_snoc (l : List Nat) (c : Nat) : rtrim (l ++ [c]) = if blank c then rtrim l else l ++ [c] := by
  unfold rtrim
  rw [List.reverse_append, List.reverse_singleton, List.singleton_append, List.dropWhile_cons]
  split
  · rfl
  · rw [List.reverse_cons, List.reverse_reverse]

set_option maxRecDepth 100000 in
theorem trim_any (s : ByteArray) (w : World) (hs : s.size < 100000000000) :
    Calls Tryz.prog 24 #[.string s] w fun e w' => (∃ x, e = .returned (.string x) ∧ nats x = trimL (nats s)) ∧ w' = w := by
  go_enter Tryz.func24, Tryz.ntmps24
  go_wp2_with fail
  go_loopw [0] (fun t wr => ∃ x : ByteArray, t = .string x ∧ x.size ≤ s.size ∧ (nats x).dropWhile blank = (nats s).dropWhile blank ∧ wr = w) (fun t _ => match t with | .string x => x.size | _ => 0)
  case atStart => exact ⟨s, rfl, Nat.le_refl _, rfl, rfl⟩
  case round =>
    obtain ⟨x, rfl, hx, hd, rfl⟩ := hrel
    have HD := Lib.hid hd
    clear hd
    by_cases he : x.size = 0
    · have hxn : nats x = [] := List.length_eq_zero_iff.1 (by rw [nats_length]; exact he)
      have h1 : (x.toList == ([] : List UInt8)) = true := by rw [lit_nats]; exact decide_eq_true hxn
      go_wp2_with fail
      have hdone : nats x = (nats s).dropWhile blank := by
        rw [← HD.out]
        rw [hxn]; rfl
      clear HD
      go_loopw [0] (fun t wq => ∃ y : ByteArray, t = .string y ∧ y.size ≤ x.size ∧ rtrim (nats y) = rtrim (nats x) ∧ wq = wr) (fun t _ => match t with | .string x => x.size | _ => 0)
      case atStart => exact ⟨x, rfl, Nat.le_refl _, rfl, rfl⟩
      case round =>
        obtain ⟨y, rfl, hy, hr, rfl⟩ := hrel
        have HR := Lib.hid hr
        have HDO := Lib.hid hdone
        clear hr hdone
        by_cases hey : y.size = 0
        · have hyn : nats y = [] := List.length_eq_zero_iff.1 (by rw [nats_length]; exact hey)
          have h2 : (y.toList == ([] : List UInt8)) = true := by rw [lit_nats]; exact decide_eq_true hyn
          have hfin : nats y = trimL (nats s) := by unfold trimL; rw [← HDO.out, ← HR.out, hyn]; rfl
          have HF := Lib.hid hfin
          clear hfin hyn
          go_wp2_with fail
          go_ret
          exact ⟨⟨y, rfl, HF.out⟩, rfl⟩
        · obtain ⟨n, hn⟩ : ∃ n, y.size = n + 1 := ⟨y.size - 1, by omega⟩
          have h2 : (y.toList == ([] : List UInt8)) = false := by
            rw [lit_nats]
            exact decide_eq_false (fun e => by have h9 : y.size = 0 := (nats_length y).symm.trans (congrArg List.length e); omega)
          have hlt : n < y.size := by omega
          have hsplit : nats y = nats (y.extract 0 n) ++ [(y[n]'hlt).toNat] := by
            rw [nats_take]
            have hl : n < (nats y).length := by rw [nats_length]; omega
            have h3 := nats_at y n hlt
            rw [List.getD_eq_getElem?_getD, List.getElem?_eq_getElem hl] at h3
            have h4 : (nats y)[n] = (y[n]'hlt).toNat := h3
            rw [← h4, List.take_append_getElem]
            exact (List.take_of_length_le (by rw [nats_length]; omega)).symm
          have k1 : ((y.size : Int) - 1) = (n : Int) := by omega
          have k2 : (n : Int) < (y.size : Int) := by omega
          have k3 : (0 : Int) ≤ (n : Int) := by omega
          have HS := Lib.hid hsplit
          have HN := Lib.hid hn
          have HB := Lib.hid (fun w => blank_any (y[n]'hlt).toNat (UInt8.toNat_lt _) w)
          have k4 : n ≤ y.size := by omega
          have k5 : (n : Int) ≤ (y.size : Int) := by omega
          clear hsplit hn hey
          cases hb : blank (y[n]'hlt).toNat with
          | true =>
            rw [hb] at HB
            go_wp2_with (go_at_call 38; (with_reducible refine (HB.out _).mono ?_); rintro e w1 ⟨rfl, rfl⟩)
            have hsz : (y.extract 0 n).size = n := by rw [ByteArray.size_extract]; omega
            refine ⟨⟨y.extract 0 n, rfl, by omega, ?_, trivial⟩, by show (y.extract 0 n).size < y.size; omega⟩
            rw [nats_take] at HS ⊢
            rw [← HR.out]
            have h5 := HS.out
            rw [h5, rtrim_snoc, hb, if_pos rfl]
            have h6 : (List.take n (nats y) ++ [(y[n]'hlt).toNat]).take n = List.take n (nats y) := by rw [← h5]
            rw [h6]
          | false =>
            rw [hb] at HB
            go_wp2_with (go_at_call 38; (with_reducible refine (HB.out _).mono ?_); rintro e w1 ⟨rfl, rfl⟩)
            go_ret
            refine ⟨⟨y, rfl, ?_⟩, rfl⟩
            have h5 : rtrim (nats y) = nats y := by rw [HS.out, rtrim_snoc, hb]; rfl
            rw [← h5, HR.out, HDO.out]
            rfl
    · have h1 : (x.toList == ([] : List UInt8)) = false := by
        rw [lit_nats]
        exact decide_eq_false (fun e => by have h9 : x.size = 0 := (nats_length x).symm.trans (congrArg List.length e); omega)
      have hlt0 : 0 < x.size := by omega
      have hlt0' : (0 : Int) < (x.size : Int) := by omega
      have k1' : (1 : Int) ≤ (x.size : Int) := by omega
      have hcons : nats x = (x[0]'hlt0).toNat :: (nats x).drop 1 := by
        have hl : 0 < (nats x).length := by rw [nats_length]; omega
        have h3 := nats_at x 0 hlt0
        rw [List.getD_eq_getElem?_getD, List.getElem?_eq_getElem hl] at h3
        have h4 : (nats x)[0] = (x[0]'hlt0).toNat := h3
        have h5 := List.drop_eq_getElem_cons hl
        rw [List.drop_zero, h4] at h5
        exact h5
      have HC := Lib.hid hcons
      have HB0 := Lib.hid (fun w => blank_any (x[0]'hlt0).toNat (UInt8.toNat_lt _) w)
      clear hcons
      cases hb0 : blank (x[0]'hlt0).toNat with
      | true =>
        rw [hb0] at HB0
        go_wp2_with (go_at_call 38; (with_reducible refine (HB0.out _).mono ?_); rintro e w1 ⟨rfl, rfl⟩)
        have hsz : (x.extract 1 x.size).size = x.size - 1 := by rw [ByteArray.size_extract]; omega
        refine ⟨⟨x.extract 1 x.size, rfl, by omega, ?_, trivial⟩, by show (x.extract 1 x.size).size < x.size; omega⟩
        rw [nats_drop, ← HD.out]
        have h5 : List.dropWhile blank (nats x) = List.dropWhile blank ((x[0]'hlt0).toNat :: (nats x).drop 1) := congrArg _ HC.out
        rw [h5, List.dropWhile_cons, hb0, if_pos rfl]
      | false =>
        rw [hb0] at HB0
        go_wp2_with (go_at_call 38; (with_reducible refine (HB0.out _).mono ?_); rintro e w1 ⟨rfl, rfl⟩)
        have hdone : nats x = (nats s).dropWhile blank := by
          rw [← HD.out]
          have h5 : List.dropWhile blank (nats x) = List.dropWhile blank ((x[0]'hlt0).toNat :: (nats x).drop 1) := congrArg _ HC.out
          rw [h5, List.dropWhile_cons, hb0, if_neg (by decide)]
          exact HC.out
        clear HD
        go_loopw [0] (fun t wq => ∃ y : ByteArray, t = .string y ∧ y.size ≤ x.size ∧ rtrim (nats y) = rtrim (nats x) ∧ wq = w1) (fun t _ => match t with | .string x => x.size | _ => 0)
        case atStart => exact ⟨x, rfl, Nat.le_refl _, rfl, rfl⟩
        case round =>
          obtain ⟨y, rfl, hy, hr, rfl⟩ := hrel
          have HR := Lib.hid hr
          have HDO := Lib.hid hdone
          clear hr hdone
          by_cases hey : y.size = 0
          · have hyn : nats y = [] := List.length_eq_zero_iff.1 (by rw [nats_length]; exact hey)
            have h2 : (y.toList == ([] : List UInt8)) = true := by rw [lit_nats]; exact decide_eq_true hyn
            have hfin : nats y = trimL (nats s) := by unfold trimL; rw [← HDO.out, ← HR.out, hyn]; rfl
            have HF := Lib.hid hfin
            clear hfin hyn
            go_wp2_with fail
            go_ret
            exact ⟨⟨y, rfl, HF.out⟩, rfl⟩
          · obtain ⟨n, hn⟩ : ∃ n, y.size = n + 1 := ⟨y.size - 1, by omega⟩
            have h2 : (y.toList == ([] : List UInt8)) = false := by
              rw [lit_nats]
              exact decide_eq_false (fun e => by have h9 : y.size = 0 := (nats_length y).symm.trans (congrArg List.length e); omega)
            have hlt : n < y.size := by omega
            have hsplit : nats y = nats (y.extract 0 n) ++ [(y[n]'hlt).toNat] := by
              rw [nats_take]
              have hl : n < (nats y).length := by rw [nats_length]; omega
              have h3 := nats_at y n hlt
              rw [List.getD_eq_getElem?_getD, List.getElem?_eq_getElem hl] at h3
              have h4 : (nats y)[n] = (y[n]'hlt).toNat := h3
              rw [← h4, List.take_append_getElem]
              exact (List.take_of_length_le (by rw [nats_length]; omega)).symm
            have k1 : ((y.size : Int) - 1) = (n : Int) := by omega
            have k2 : (n : Int) < (y.size : Int) := by omega
            have k3 : (0 : Int) ≤ (n : Int) := by omega
            have HS := Lib.hid hsplit
            have HN := Lib.hid hn
            have HB := Lib.hid (fun w => blank_any (y[n]'hlt).toNat (UInt8.toNat_lt _) w)
            have k4 : n ≤ y.size := by omega
            have k5 : (n : Int) ≤ (y.size : Int) := by omega
            clear hsplit hn hey
            cases hb : blank (y[n]'hlt).toNat with
            | true =>
              rw [hb] at HB
              go_wp2_with (go_at_call 38; (with_reducible refine (HB.out _).mono ?_); rintro e w1 ⟨rfl, rfl⟩)
              have hsz : (y.extract 0 n).size = n := by rw [ByteArray.size_extract]; omega
              refine ⟨⟨y.extract 0 n, rfl, by omega, ?_, trivial⟩, by show (y.extract 0 n).size < y.size; omega⟩
              rw [nats_take] at HS ⊢
              rw [← HR.out]
              have h5 := HS.out
              rw [h5, rtrim_snoc, hb, if_pos rfl]
              have h6 : (List.take n (nats y) ++ [(y[n]'hlt).toNat]).take n = List.take n (nats y) := by rw [← h5]
              rw [h6]
            | false =>
              rw [hb] at HB
              go_wp2_with (go_at_call 38; (with_reducible refine (HB.out _).mono ?_); rintro e w1 ⟨rfl, rfl⟩)
              go_ret
              refine ⟨⟨y, rfl, ?_⟩, rfl⟩
              have h5 : rtrim (nats y) = nats y := by rw [HS.out, rtrim_snoc, hb]; rfl
              rw [← h5, HR.out, HDO.out]
              rfl

end Go.Proofs.YtopcjlimjkfoiaaGreatDoor
namespace Go.Proofs.YtopcjlimjkfoiaaGreatDoor
open Go.RowKit
attribute [local go_sem] Ext.cell Ext.frozen Ext.lt Ext.lt_add Ext.cell2 Ext.frozen2

def ABool (e : Ending) : Prop := ∃ b, e = .returned (.bool b)

def num (l : List Nat) : Nat := l.foldl (fun n c => 10 * n + (c - 48)) 0
def digs (l : List Nat) : Prop := l ≠ [] ∧ ∀ c ∈ l, dig c = true

theorem num_snoc (l : List Nat) (c : Nat) : num (l ++ [c]) = 10 * num l + (c - 48) := by
  unfold num
  rw [List.foldl_append]
  rfl

theorem take_snoc {l : List Nat} {i : Nat} (h : i < l.length) : l.take (i + 1) = l.take i ++ [l.getD i 0] := by
  rw [List.getD_eq_getElem?_getD, List.getElem?_eq_getElem h, Option.getD_some, List.take_append_getElem]

theorem dig_iff {c : Nat} : dig c = true ↔ 48 ≤ c ∧ c ≤ 57 := by
  unfold dig
  simp

def ZerosRes (s : ByteArray) (e : Ending) : Prop := ∃ b, e = .returned (.bool b) ∧ (b = true → ∀ c ∈ nats s, c = 48)

set_option maxRecDepth 100000 in
theorem zeros_any (s : ByteArray) (w : World) (hs : s.size < 100000000000) :
    Calls Tryz.prog 118 #[.string s] w fun e w' => ZerosRes s e ∧ w' = w := by
  go_enter Tryz.func118, Tryz.ntmps118
  go_wp2_with fail
  go_loopw [6] (fun t wr => ∃ i : Nat, t = .int .i64 i ∧ i ≤ s.size ∧ (∀ c ∈ (nats s).take i, c = 48) ∧ wr = w) (fun t _ => s.size - (intOf t).toNat)
  case atStart => exact ⟨0, rfl, Nat.zero_le _, fun c h => by simp at h, rfl⟩
  case round =>
    obtain ⟨i, rfl, hi, hall, rfl⟩ := hrel
    have HALL := Lib.hid hall
    clear hall
    have h0 : (0 : Int) ≤ (i : Int) := by omega
    by_cases hlt : i < s.size
    · have hlt' : (i : Int) < (s.size : Int) := by omega
      have hl : i < (nats s).length := by rw [nats_length]; exact hlt
      have HT := Lib.hid (take_snoc hl)
      rw [nats_at s i hlt] at HT
      by_cases hc : (s[i]'hlt).toNat = 48
      · have hc' : (((s[i]'hlt).toNat : Int) == 48) = true := beq_iff_eq.2 (by omega)
        have HC := Lib.hid hc
        clear hc
        go_wp2_with fail
        refine ⟨⟨i + 1, by simp, by omega, fun c h => ?_, trivial⟩, by simp [intOf]; omega⟩
        rw [HT.out] at h
        rcases List.mem_append.1 h with h | h
        · exact HALL.out c h
        · rw [List.mem_singleton.1 h]; exact HC.out
      · have hc' : (((s[i]'hlt).toNat : Int) == 48) = false := beq_eq_false_iff_ne.2 (by omega)
        go_wp2_with fail
        go_ret
        exact ⟨⟨false, rfl, fun h => Bool.noConfusion h⟩, rfl⟩
    · have hlt' : ¬ (i : Int) < (s.size : Int) := by omega
      go_wp2_with fail
      go_ret
      refine ⟨⟨true, rfl, fun _ c h => HALL.out c ?_⟩, rfl⟩
      rwa [List.take_of_length_le (by rw [nats_length]; omega)]

def NumFine (l : List Nat) (n : Nat) : Prop := digs l ∧ n = min (num l) 1099511627776

def NumRes (s : ByteArray) (e : Ending) : Prop := ∃ n v : Nat, e = .returned (.tuple #[.int .i64 n, .int .i64 v]) ∧ n ≤ 1099511627776 ∧ v ≤ 2 ∧ (v = 1 → NumFine (nats s) n)

set_option maxRecDepth 100000 in
set_option maxHeartbeats 1000000 in
theorem number_plain (s : ByteArray) (w : World) (hs : s.size < 100000000000) (h0 : 0 < s.size) (k43 : (((s[0]'h0).toNat : Int) == 43) = false) (k45 : (((s[0]'h0).toNat : Int) == 45) = false) :
    Calls Tryz.prog 113 #[.string s] w fun e w' => NumRes s e ∧ w' = w := by
  have h1 : (s.toList == ([] : List UInt8)) = false := by
    rw [lit_nats]
    exact decide_eq_false (fun e => by have h9 : s.size = 0 := (nats_length s).symm.trans (congrArg List.length e); omega)
  have k0 : (0 : Int) < (s.size : Int) := by omega
  have k1 : (1 : Int) ≤ (s.size : Int) := by omega
  go_enter Tryz.func113, Tryz.ntmps113
  go_wp2_with fail
  go_loopw [5, 31] (fun n t wr => ∃ i N : Nat, t = .int .i64 i ∧ n = .int .i64 N ∧ i ≤ s.size ∧ N ≤ 1099511627776 ∧ (∀ c ∈ (nats s).take i, dig c = true) ∧ N = min (num ((nats s).take i)) 1099511627776 ∧ wr = w) (fun _ t _ => s.size - (intOf t).toNat)
  case atStart => exact ⟨0, 0, rfl, rfl, Nat.zero_le _, Nat.zero_le _, fun c h => by simp at h, rfl, rfl⟩
  case round =>
    obtain ⟨i, N, rfl, rfl, hi, hN2, hall, hN, rfl⟩ := hrel
    have HALL := Lib.hid hall
    have HNN := Lib.hid hN
    have h0 : (0 : Int) ≤ (i : Int) := by omega
    have n0 : (0 : Int) ≤ (N : Int) := by omega
    have n1 : (N : Int) ≤ 1099511627776 := by omega
    clear hall hN
    by_cases hlt : i < s.size
    · have hlt' : (i : Int) < (s.size : Int) := by omega
      have hl : i < (nats s).length := by rw [nats_length]; exact hlt
      have HT := Lib.hid (take_snoc hl)
      rw [nats_at _ i hlt] at HT
      have HD := Lib.hid (fun w => isDigit_any ((s[i]'hlt).toNat) (UInt8.toNat_lt _) w)
      cases hd : dig ((s[i]'hlt).toNat) with
      | false =>
        rw [hd] at HD
        go_wp2_with (go_at_call 105; (with_reducible refine (HD.out _).mono ?_); rintro e w1 ⟨rfl, rfl⟩)
        go_ret2
        exact ⟨⟨0, 0, rfl, by decide, by decide, fun h => absurd h (by decide)⟩, rfl⟩
      | true =>
        rw [hd] at HD
        have hdd := dig_iff.1 hd
        have c0 : (48 : Int) ≤ ((s[i]'hlt).toNat : Int) := by omega
        have c1 : ((s[i]'hlt).toNat : Int) ≤ 57 := by omega
        have hm : ((min (10 * N + ((s[i]'hlt).toNat - 48)) 1099511627776 : Nat) : Int) = min (10 * (N : Int) + (((s[i]'hlt).toNat : Int) - 48)) 1099511627776 := by omega
        have HM := Lib.hid hm
        clear hm
        go_wp2_with (go_at_call 105; (with_reducible refine (HD.out _).mono ?_); rintro e w1 ⟨rfl, rfl⟩)
        refine ⟨⟨i + 1, min (10 * N + ((s[i]'hlt).toNat - 48)) 1099511627776, by simp, by congr 1; split <;> omega, by omega, by omega, fun c hc => ?_, ?_, trivial⟩, by simp [intOf]; omega⟩
        · rw [HT.out] at hc
          rcases List.mem_append.1 hc with hc | hc
          · exact HALL.out c hc
          · rw [List.mem_singleton.1 hc]; exact hd
        · rw [HT.out, num_snoc]
          have := HNN.out
          omega
    · have hlt' : ¬ (i : Int) < (s.size : Int) := by omega
      go_wp2_with fail
      go_ret2
      have hi2 : i = (nats s).length := by rw [nats_length]; omega
      refine ⟨⟨N, 1, rfl, hN2, by decide, fun h => ?_⟩, rfl⟩
      have h2 := HALL.out; have h3 := HNN.out; rw [hi2, List.take_length] at h2 h3; exact ⟨⟨fun e => (by have h9 : s.size = 0 := (nats_length s).symm.trans (congrArg List.length e); omega), h2⟩, h3⟩

set_option maxRecDepth 100000 in
set_option maxHeartbeats 1000000 in
theorem number_plus (s : ByteArray) (w : World) (hs : s.size < 100000000000) (h0 : 0 < s.size) (k43 : (((s[0]'h0).toNat : Int) == 43) = true) :
    Calls Tryz.prog 113 #[.string s] w fun e w' => NumRes s e ∧ w' = w := by
  have h1 : (s.toList == ([] : List UInt8)) = false := by
    rw [lit_nats]
    exact decide_eq_false (fun e => by have h9 : s.size = 0 := (nats_length s).symm.trans (congrArg List.length e); omega)
  have k0 : (0 : Int) < (s.size : Int) := by omega
  have k1 : (1 : Int) ≤ (s.size : Int) := by omega
  have hxs : (s.extract 1 s.size).size < 100000000000 := by rw [ByteArray.size_extract]; omega
  have HZ := Lib.hid (fun w => zeros_any (s.extract 1 s.size) w hxs)
  go_enter Tryz.func113, Tryz.ntmps113
  by_cases he : (s.extract 1 s.size).size = 0
  · have h2 : ((s.extract 1 s.size).toList == ([] : List UInt8)) = true := by
      rw [lit_nats]
      exact decide_eq_true (List.length_eq_zero_iff.1 (by rw [nats_length]; exact he))
    go_wp2_with fail
    go_ret2
    exact ⟨⟨0, 0, rfl, by decide, by decide, fun h => absurd h (by decide)⟩, rfl⟩
  · have h2 : ((s.extract 1 s.size).toList == ([] : List UInt8)) = false := by
      rw [lit_nats]
      exact decide_eq_false (fun e => by have h9 : (s.extract 1 s.size).size = 0 := (nats_length _).symm.trans (congrArg List.length e); omega)
    go_wp2_with fail
    clear he HZ
    have hxsz : (s.extract 1 s.size).size = s.size - 1 := by rw [ByteArray.size_extract]; omega
    generalize s.extract 1 s.size = x at *
    go_loopw [5, 31] (fun n t wr => ∃ i N : Nat, t = .int .i64 i ∧ n = .int .i64 N ∧ i ≤ x.size ∧ N ≤ 1099511627776 ∧ (∀ c ∈ (nats x).take i, dig c = true) ∧ N = min (num ((nats x).take i)) 1099511627776 ∧ wr = w) (fun _ t _ => x.size - (intOf t).toNat)
    case atStart => exact ⟨0, 0, rfl, rfl, Nat.zero_le _, Nat.zero_le _, fun c h => by simp at h, rfl, rfl⟩
    case round =>
      obtain ⟨i, N, rfl, rfl, hi, hN2, hall, hN, rfl⟩ := hrel
      have HALL := Lib.hid hall
      have HNN := Lib.hid hN
      have h0 : (0 : Int) ≤ (i : Int) := by omega
      have n0 : (0 : Int) ≤ (N : Int) := by omega
      have n1 : (N : Int) ≤ 1099511627776 := by omega
      clear hall hN
      by_cases hlt : i < x.size
      · have hlt' : (i : Int) < (x.size : Int) := by omega
        have hlt4 : i < s.size - 1 := by omega
        have hl : i < (nats x).length := by rw [nats_length]; exact hlt
        have HT := Lib.hid (take_snoc hl)
        rw [nats_at _ i hlt] at HT
        have HD := Lib.hid (fun w => isDigit_any ((x[i]'hlt).toNat) (UInt8.toNat_lt _) w)
        cases hd : dig ((x[i]'hlt).toNat) with
        | false =>
          rw [hd] at HD
          go_wp2_with (go_at_call 105; (with_reducible refine (HD.out _).mono ?_); rintro e w1 ⟨rfl, rfl⟩)
          go_ret2
          exact ⟨⟨0, 0, rfl, by decide, by decide, fun h => absurd h (by decide)⟩, rfl⟩
        | true =>
          rw [hd] at HD
          have hdd := dig_iff.1 hd
          have c0 : (48 : Int) ≤ ((x[i]'hlt).toNat : Int) := by omega
          have c1 : ((x[i]'hlt).toNat : Int) ≤ 57 := by omega
          have hm : ((min (10 * N + ((x[i]'hlt).toNat - 48)) 1099511627776 : Nat) : Int) = min (10 * (N : Int) + (((x[i]'hlt).toNat : Int) - 48)) 1099511627776 := by omega
          have HM := Lib.hid hm
          clear hm
          go_wp2_with (go_at_call 105; (with_reducible refine (HD.out _).mono ?_); rintro e w1 ⟨rfl, rfl⟩)
          refine ⟨⟨i + 1, min (10 * N + ((x[i]'hlt).toNat - 48)) 1099511627776, by simp, by congr 1; split <;> omega, by omega, by omega, fun c hc => ?_, ?_, trivial⟩, by simp [intOf]; omega⟩
          · rw [HT.out] at hc
            rcases List.mem_append.1 hc with hc | hc
            · exact HALL.out c hc
            · rw [List.mem_singleton.1 hc]; exact hd
          · rw [HT.out, num_snoc]
            have := HNN.out
            omega
      · have hlt' : ¬ (i : Int) < (x.size : Int) := by omega
        have hlt4 : ¬ i < s.size - 1 := by omega
        go_wp2_with fail
        go_ret2
        have hi2 : i = (nats x).length := by rw [nats_length]; omega
        refine ⟨⟨N, 2, rfl, hN2, by decide, fun h => ?_⟩, rfl⟩
        exact absurd h (by decide)

set_option maxRecDepth 100000 in
set_option maxHeartbeats 1000000 in
theorem number_minus (s : ByteArray) (w : World) (hs : s.size < 100000000000) (h0 : 0 < s.size) (k43 : (((s[0]'h0).toNat : Int) == 43) = false) (k45 : (((s[0]'h0).toNat : Int) == 45) = true) :
    Calls Tryz.prog 113 #[.string s] w fun e w' => NumRes s e ∧ w' = w := by
  have h1 : (s.toList == ([] : List UInt8)) = false := by
    rw [lit_nats]
    exact decide_eq_false (fun e => by have h9 : s.size = 0 := (nats_length s).symm.trans (congrArg List.length e); omega)
  have k0 : (0 : Int) < (s.size : Int) := by omega
  have k1 : (1 : Int) ≤ (s.size : Int) := by omega
  have hxs : (s.extract 1 s.size).size < 100000000000 := by rw [ByteArray.size_extract]; omega
  have HZ := Lib.hid (fun w => zeros_any (s.extract 1 s.size) w hxs)
  go_enter Tryz.func113, Tryz.ntmps113
  by_cases he : (s.extract 1 s.size).size = 0
  · have h2 : ((s.extract 1 s.size).toList == ([] : List UInt8)) = true := by
      rw [lit_nats]
      exact decide_eq_true (List.length_eq_zero_iff.1 (by rw [nats_length]; exact he))
    go_wp2_with (go_at_call 118; (with_reducible refine (HZ.out _).mono ?_); rintro e w1 ⟨⟨b, rfl, hzb⟩, rfl⟩; have HZB := Lib.hid hzb; clear hzb)
    · go_ret2
      exact ⟨⟨0, 0, rfl, by decide, by decide, fun h => absurd h (by decide)⟩, rfl⟩
    · clear he HZ h2 hxs
      go_loopw [31] (fun t wr => t = .int .i64 0 ∧ wr = w1) (fun _ _ => 0)
      case atStart => exact ⟨rfl, rfl⟩
      case round =>
        obtain ⟨rfl, rfl⟩ := hrel
        have h45 : (s[0]'h0).toNat = 45 := by have := eq_of_beq k45; omega
        have HD := Lib.hid (fun w => isDigit_any ((s[0]'h0).toNat) (UInt8.toNat_lt _) w)
        rw [show dig ((s[0]'h0).toNat) = false by rw [h45]; rfl] at HD
        clear h45
        go_wp2_with (go_at_call 105; (with_reducible refine (HD.out _).mono ?_); rintro e w1 ⟨rfl, rfl⟩)
        go_ret2
        exact ⟨⟨0, 0, rfl, by decide, by decide, fun h => absurd h (by decide)⟩, rfl⟩
  · have h2 : ((s.extract 1 s.size).toList == ([] : List UInt8)) = false := by
      rw [lit_nats]
      exact decide_eq_false (fun e => by have h9 : (s.extract 1 s.size).size = 0 := (nats_length _).symm.trans (congrArg List.length e); omega)
    go_wp2_with (go_at_call 118; (with_reducible refine (HZ.out _).mono ?_); rintro e w1 ⟨⟨b, rfl, hzb⟩, rfl⟩; have HZB := Lib.hid hzb; clear hzb)
    · have hbt : b = true := by assumption
      subst hbt
      clear he HZ
      have hxsz : (s.extract 1 s.size).size = s.size - 1 := by rw [ByteArray.size_extract]; omega
      generalize s.extract 1 s.size = x at *
      go_loopw [5, 31] (fun n t wr => ∃ i : Nat, t = .int .i64 i ∧ n = .int .i64 0 ∧ i ≤ x.size ∧ wr = w1) (fun _ t _ => x.size - (intOf t).toNat)
      case atStart => exact ⟨0, rfl, rfl, Nat.zero_le _, rfl⟩
      case round =>
        obtain ⟨i, rfl, rfl, hi, rfl⟩ := hrel
        have h0 : (0 : Int) ≤ (i : Int) := by omega
        have HD := Lib.hid (fun w => (show Calls Tryz.prog 105 #[.int .u8 48] w fun e w' => e = .returned (.bool true) ∧ w' = w from isDigit_any 48 (by decide) w))
        by_cases hlt : i < x.size
        · have hlt' : (i : Int) < (x.size : Int) := by omega
          have hlt4 : i < s.size - 1 := by omega
          have hl : i < (nats x).length := by rw [nats_length]; exact hlt
          have h48 := HZB.out rfl _ (getD_mem hl)
          rw [nats_at x i hlt] at h48
          have h48' : ((x[i]'hlt).toNat : Int) = 48 := by omega
          clear h48
          go_wp2_with (go_at_call 105; (with_reducible refine (HD.out _).mono ?_); rintro e w1 ⟨rfl, rfl⟩)
          exact ⟨⟨i + 1, by simp, rfl, by omega, trivial⟩, by simp [intOf]; omega⟩
        · have hlt' : ¬ (i : Int) < (x.size : Int) := by omega
          have hlt4 : ¬ i < s.size - 1 := by omega
          go_wp2_with fail
          go_ret2
          exact ⟨⟨0, 2, rfl, by decide, by decide, fun h => absurd h (by decide)⟩, rfl⟩
    · clear he HZ h2 hxs
      go_loopw [31] (fun t wr => t = .int .i64 0 ∧ wr = w1) (fun _ _ => 0)
      case atStart => exact ⟨rfl, rfl⟩
      case round =>
        obtain ⟨rfl, rfl⟩ := hrel
        have h45 : (s[0]'h0).toNat = 45 := by have := eq_of_beq k45; omega
        have HD := Lib.hid (fun w => isDigit_any ((s[0]'h0).toNat) (UInt8.toNat_lt _) w)
        rw [show dig ((s[0]'h0).toNat) = false by rw [h45]; rfl] at HD
        clear h45
        go_wp2_with (go_at_call 105; (with_reducible refine (HD.out _).mono ?_); rintro e w1 ⟨rfl, rfl⟩)
        go_ret2
        exact ⟨⟨0, 0, rfl, by decide, by decide, fun h => absurd h (by decide)⟩, rfl⟩

theorem number_any (s : ByteArray) (w : World) (hs : s.size < 100000000000) :
    Calls Tryz.prog 113 #[.string s] w fun e w' => NumRes s e ∧ w' = w := by
  by_cases he : 0 < s.size
  · by_cases h43 : (((s[0]'he).toNat : Int) == 43) = true
    · exact number_plus s w hs he h43
    · have h43 : (((s[0]'he).toNat : Int) == 43) = false := Bool.eq_false_iff.2 h43
      by_cases h45 : (((s[0]'he).toNat : Int) == 45) = true
      · exact number_minus s w hs he h43 h45
      · exact number_plain s w hs he h43 (Bool.eq_false_iff.2 h45)
  · have h1 : (s.toList == ([] : List UInt8)) = true := by
      rw [lit_nats]
      exact decide_eq_true (List.length_eq_zero_iff.1 (by rw [nats_length]; omega))
    have k0 : ¬ (0 : Int) < (s.size : Int) := by omega
    go_enter Tryz.func113, Tryz.ntmps113
    go_wp2_with fail
    go_ret2
    exact ⟨⟨0, 0, rfl, by decide, by decide, fun h => absurd h (by decide)⟩, rfl⟩

end Go.Proofs.YtopcjlimjkfoiaaGreatDoor
namespace Go.Proofs.YtopcjlimjkfoiaaGreatDoor
open Go.RowKit

theorem str_info : (Tryz.prog.info? 9).map (fun i => (i.zero, i.size, i.bytes)) = some (some (.string ByteArray.empty), 1, 16) := by kernel_rfl

theorem ownsRow_cell {w : World} {base n : Nat} {e : TypeId} {sz : Nat} {v : Value} {xs : List Value} (h : w.ownsRow base e sz v n xs) (hn : 0 < n) : ∃ g cap, v = .slice (some ⟨g, 0, none⟩) n cap ∧ base ≤ g ∧ g < w.heap.size ∧ ∀ i, i < n * sz → w.cell? ⟨g, i, none⟩ = xs[i]? := by
  obtain ⟨h1, h2⟩ := h
  rcases h2 with ⟨_, h2⟩ | ⟨g, cap, cur, rfl, hb, hg, hc, hc2, hs, hx⟩
  · omega
  · refine ⟨g, cap, rfl, hb, (Array.getElem?_eq_some_iff.1 hg).1, fun i hi => ?_⟩
    rw [← hx, List.getElem?_take, if_pos hi]
    simp [World.cell?, hg]

theorem Ext.grown {w wr w' : World} {v : Value} {n : Nat} {xs : List Value} {t : TypeId} {sz : Nat} (x : Ext w) (hx : wr = x.now) (ho : wr.ownsRow w.heap.size t sz v n xs) (hg : wr.grownBy w' v.ownBlock) : ∃ y : Ext w, w' = y.now := by
  subst hx
  refine Ext.of ⟨hg.os.trans x.below.os, hg.tape.trans x.below.tape, hg.output.trans x.below.output, Nat.le_trans x.below.size hg.size, fun k hk => ?_⟩
  rw [hg.block k (Nat.lt_of_lt_of_le hk x.below.size) (fun e => by have := (ho.lt k e.symm).1; omega)]
  exact x.below.block k hk

theorem str_append (w : World) {ops : Array Oper} {rest : List Oper} {o : Oper} {a : Act} {Q : Exit → Act → World → Prop} (hgd : o.guard = none) (s x : Operand)
    (ho : o.op = .call { callee := .builtin .append, args := #[s, x], argTypes := #[85, 85] }) (base n : Nat) (v : Value) (xs : List Value) (hs : a.eval s = v)
    (hown : w.ownsRow base 9 1 v n xs) (ad : Addr) (c : Nat) (d : ByteArray) (hx : a.eval x = .slice (some ad) 1 c)
    (hnews : w.cell? ad = some (.string d)) (hn : n < 1000000000000) (hbase : base ≤ w.heap.size)
    (h : ∀ g cap w', w'.ownsRow base 9 1 (.slice (some ⟨g, 0, none⟩) (n + 1) cap) (n + 1) (xs ++ [.string d]) → w.grownBy w' v.ownBlock → wpList Tryz.prog ops Q rest (a.put o.dst (.slice (some ⟨g, 0, none⟩) (n + 1) cap)) w') :
    wpList Tryz.prog ops Q (o :: rest) a w := by
  obtain ⟨i, hi, hz0, hz1, hz2⟩ := info_parts str_info
  refine wpList_append_lies w hgd s x 85 ho base 9 i _ 1 16 (by kernel_rfl) hi hz0 hz1 hz2 rfl (by omega) v n xs hs hown ad 1 c [.string d] hx (by simp) ?_ (by simp [Value.oneCell']) (by omega) (by simp [maxLen]; omega) (by omega) hbase _ rfl (fun g cap w' a1 a2 _ _ => h g cap w' a1 a2)
  intro j u hu
  match j, hu with
  | 0, hu =>
    simp at hu
    subst hu
    simpa [Addr.add] using hnews

theorem oper_append (w : World) {o : Oper} {a : Act} {K : Act → World → Prop} {Q : Exit → Act → World → Prop} (s x : Operand)
    (ho : o.op = .call { callee := .builtin .append, args := #[s, x], argTypes := #[85, 85] }) (base n : Nat) (v : Value) (xs : List Value) (hs : a.eval s = v)
    (hown : w.ownsRow base 9 1 v n xs) (ad : Addr) (c : Nat) (d : ByteArray) (hx : a.eval x = .slice (some ad) 1 c)
    (hnews : w.cell? ad = some (.string d)) (hn : n < 1000000000000) (hbase : base ≤ w.heap.size)
    (h : ∀ g cap w', w'.ownsRow base 9 1 (.slice (some ⟨g, 0, none⟩) (n + 1) cap) (n + 1) (xs ++ [.string d]) → w.grownBy w' v.ownBlock → K (a.put o.dst (.slice (some ⟨g, 0, none⟩) (n + 1) cap)) w') :
    Oper.wp Tryz.prog o a w K Q := by
  obtain ⟨i, hi, hz0, hz1, hz2⟩ := info_parts str_info
  have hnw : ∀ j u, [Value.string d][j]? = some u → w.cell? (ad.add j) = some u := by
    intro j u hu
    match j, hu with
    | 0, hu =>
      simp at hu
      subst hu
      simpa [Addr.add] using hnews
  obtain ⟨v', w', hr, h2, h3, h4, h5⟩ := run_append_own_at (P := Tryz.prog) w base 85 o.type 9 i _ 1 16 (by kernel_rfl) hi hz0 hz1 hz2 rfl (by omega) v n xs hown ad 1 c [.string d] (by simp) hnw (by simp [Value.oneCell']) (by simp [maxLen]; omega) (by omega) hbase
  obtain ⟨g, cap, rfl, _⟩ := ownsRow_cell h2 (by omega)
  have hk := h g cap w' h2 h3
  unfold Oper.wp execOp
  simp only [ho, resolve, invoke, builtin, Sem.run_bind, Sem.run_pure, Result.andThen_ok, List.map_toArray, List.map_cons, List.map_nil, hs, hx, hr]
  exact hk

def pieces (c : Nat) : List Nat → List (List Nat)
  | [] => [[]]
  | x :: r => if x = c then [] :: pieces c r else
    match pieces c r with
    | p :: ps => (x :: p) :: ps
    | [] => [[x]]

theorem pieces_ne (c : Nat) (l : List Nat) : pieces c l ≠ [] := by
  cases l with
  | nil => simp [pieces]
  | cons x r =>
    unfold pieces
    split
    · simp
    · split <;> simp

theorem pieces_none {c : Nat} {l : List Nat} (h : c ∉ l) : pieces c l = [l] := by
  induction l with
  | nil => rfl
  | cons x r ih =>
    have hx : x ≠ c := fun e => h (by rw [e]; exact List.mem_cons_self ..)
    unfold pieces
    rw [if_neg hx, ih fun hh => h (List.mem_cons_of_mem _ hh)]

theorem pieces_at {c : Nat} {a : List Nat} (b : List Nat) (h : c ∉ a) : pieces c (a ++ c :: b) = a :: pieces c b := by
  induction a with
  | nil => simp [pieces]
  | cons x r ih =>
    have hx : x ≠ c := fun e => h (by rw [e]; exact List.mem_cons_self ..)
    rw [List.cons_append]
    conv => lhs; unfold pieces
    rw [if_neg hx, ih fun hh => h (List.mem_cons_of_mem _ hh)]

theorem Ext.furth {w w1 : World} (h : ∃ y : Ext w, w1 = y.now) (x : Ext w1) : ∃ y : Ext w, x.now = y.now := by
  obtain ⟨y, rfl⟩ := h
  exact ⟨y.trans x, rfl⟩

structure StrRow (w : World) (g : Nat) (ds : List ByteArray) : Prop where
  lt : g < w.heap.size
  at_ : ∀ i, i < ds.length → w.cell? ⟨g, i, none⟩ = (ds.map Value.string)[i]?

theorem StrRow.ext {w : World} {g : Nat} {ds : List ByteArray} (h : StrRow w g ds) (x : Ext w) : StrRow x.now g ds :=
  ⟨x.lt _ h.lt, fun i hi => by rw [x.cell _ _ h.lt]; exact h.at_ i hi⟩

theorem StrRow.get {w : World} {g : Nat} {ds : List ByteArray} (h : StrRow w g ds) (i : Nat) (hi : i < ds.length) : w.cell? ⟨g, i, none⟩ = some (.string (ds.getD i ByteArray.empty)) := by
  rw [h.at_ i hi, List.getElem?_map, List.getElem?_eq_getElem hi, List.getD_eq_getElem?_getD, List.getElem?_eq_getElem hi]
  rfl

end Go.Proofs.YtopcjlimjkfoiaaGreatDoor
