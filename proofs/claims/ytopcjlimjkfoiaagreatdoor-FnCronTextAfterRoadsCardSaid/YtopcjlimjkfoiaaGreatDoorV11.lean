/-
FnCronTextAfterRoads: the calendar, the schedules, their texts and the zones, part 11 of 34.
-/
import Derived.Test.YtopcjlimjkfoiaaGreatDoorV10
import Derived.Test.YtopcjlimjkfoiaaGreatDoorV04
import Derived.Laws.IdiomCopy
import Derived.Laws.Cells
set_option linter.all false
namespace Go.Proofs.YtopcjlimjkfoiaaGreatDoor
open Go.RowKit
attribute [local go_sem] Ext.cell Ext.frozen Ext.lt Ext.lt_add Ext.cell2 Ext.frozen2

def SameRes (a b : ByteArray) (e : Ending) : Prop := ∃ r, e = .returned (.bool r) ∧ (r = true ↔ (nats a).map upc = (nats b).map upc)

theorem map_ext_getD {a b : List Nat} (hl : a.length = b.length) (h : ∀ i, i < a.length → upc (a.getD i 0) = upc (b.getD i 0)) : a.map upc = b.map upc := by
  refine List.ext_getElem (by simpa using hl) fun i h1 h2 => ?_
  rw [List.getElem_map, List.getElem_map]
  have hi : i < a.length := by simpa using h1
  have hi2 : i < b.length := by omega
  have := h i hi
  rw [List.getD_eq_getElem?_getD, List.getD_eq_getElem?_getD, List.getElem?_eq_getElem hi, List.getElem?_eq_getElem hi2] at this
  exact this

theorem map_getD {a b : List Nat} (e : a.map upc = b.map upc) {i : Nat} (hi : i < a.length) : upc (a.getD i 0) = upc (b.getD i 0) := by
  have hl : a.length = b.length := by simpa using congrArg List.length e
  have h2 := congrArg (fun l => l.getD i 0) e
  simp only [List.getD_eq_getElem?_getD, List.getElem?_map, List.getElem?_eq_getElem hi, List.getElem?_eq_getElem (show i < b.length by omega)] at h2 ⊢
  exact h2

set_option maxRecDepth 1000000 in
set_option maxHeartbeats 1000000 in
theorem same_any (a b : ByteArray) (w : World) (ha : a.size < 100000000000) (hb : b.size < 100000000000) :
    Calls Tryz.prog 116 #[.string a, .string b] w fun e w' => SameRes a b e ∧ ∃ y : Ext w, w' = y.now := by
  by_cases hsz : a.size = b.size
  · have hq : ((a.size : Int) != (b.size : Int)) = false := bne_eq_false_iff_eq.2 (by omega)
    have HSZ : ∃ q, q = a.size ∧ q = b.size := ⟨_, rfl, hsz⟩
    clear hsz
    go_enter Tryz.func116, Tryz.ntmps116
    go_wp2_with fail
    clear hq
    go_loopw [13] (fun t wr => ∃ i : Nat, t = .int .i64 i ∧ i ≤ a.size ∧ (∀ j, j < i → upc ((nats a).getD j 0) = upc ((nats b).getD j 0)) ∧ ∃ x : Ext w, wr = x.now) (fun t _ => a.size - (intOf t).toNat)
    case atStart => exact ⟨0, rfl, Nat.zero_le _, fun j h => absurd h (Nat.not_lt_zero _), Ext.here _⟩
    case round =>
      obtain ⟨i, rfl, hi, hall, x, rfl⟩ := hrel
      have HALL := Lib.hid hall
      clear hall
      have h0 : (0 : Int) ≤ (i : Int) := by omega
      by_cases hlt : i < a.size
      · have hlt' : (i : Int) < (a.size : Int) := by omega
        have hltb : i < b.size := by obtain ⟨q, rfl, h9⟩ := HSZ; omega
        have hltb' : (i : Int) < (b.size : Int) := by omega
        have HA := Lib.hid (fun (y : Ext x.now) => calls_ext_same (x := y) ((upper_any (a[i]'hlt).toNat (UInt8.toNat_lt _) y.now).mono fun _ _ ⟨h1, h2⟩ => ⟨h1, h2.symm⟩))
        have HB := Lib.hid (fun (y : Ext x.now) => calls_ext_same (x := y) ((upper_any (b[i]'hltb).toNat (UInt8.toNat_lt _) y.now).mono fun _ _ ⟨h1, h2⟩ => ⟨h1, h2.symm⟩))
        have HAT := Lib.hid (nats_at a i hlt)
        have HBT := Lib.hid (nats_at b i hltb)
        by_cases hc : upc (a[i]'hlt).toNat = upc (b[i]'hltb).toNat
        · have hc' : (((upc (a[i]'hlt).toNat : Nat) : Int) != ((upc (b[i]'hltb).toNat : Nat) : Int)) = false := bne_eq_false_iff_eq.2 (by omega)
          have HC := Lib.hid hc
          clear hc
          go_wp2
          refine wp_region_ext (by kernel_rfl) (by kernel_rfl) ?_
          repeat (quiet_step (first | (go_at_call 124; first | (with_reducible exact HA.out _) | (with_reducible exact HB.out _))))
          refine wpQuiet_nil ?_
          rintro w2 ⟨y, rfl⟩
          obtain ⟨z, hz⟩ := Ext.both x y
          rw [hz]
          clear hz
          go_wp2
          refine ⟨⟨i + 1, by simp, by omega, fun j hj => ?_, z, rfl⟩, by simp [intOf]; omega⟩
          by_cases e : j = i
          · subst e; rw [HAT.out, HBT.out]; exact HC.out
          · exact HALL.out j (by omega)
        · have hc' : (((upc (a[i]'hlt).toNat : Nat) : Int) != ((upc (b[i]'hltb).toNat : Nat) : Int)) = true := bne_iff_ne.2 (by omega)
          have HC := Lib.hid hc
          clear hc
          go_wp2
          refine wp_region_ext (by kernel_rfl) (by kernel_rfl) ?_
          repeat (quiet_step (first | (go_at_call 124; first | (with_reducible exact HA.out _) | (with_reducible exact HB.out _))))
          refine wpQuiet_nil ?_
          rintro w2 ⟨y, rfl⟩
          go_wp2
          go_ret
          refine ⟨⟨false, rfl, fun h => Bool.noConfusion h, fun e => absurd ?_ HC.out⟩, Ext.both x y⟩
          have := map_getD e (i := i) (by rw [nats_length]; exact hlt)
          rw [HAT.out, HBT.out] at this
          exact this
      · have hlt' : ¬ (i : Int) < (a.size : Int) := by omega
        go_wp2_with fail
        go_ret
        refine ⟨⟨true, rfl, fun _ => map_ext_getD ?_ fun j hj => HALL.out j (by rw [nats_length] at hj; omega), fun _ => rfl⟩, x, rfl⟩
        obtain ⟨q, h8, h9⟩ := HSZ
        rw [nats_length, nats_length]; omega
  · have hq : ((a.size : Int) != (b.size : Int)) = true := bne_iff_ne.2 (by omega)
    go_enter Tryz.func116, Tryz.ntmps116
    go_wp2_with fail
    go_ret
    refine ⟨⟨false, rfl, fun h => Bool.noConfusion h, fun e => absurd ?_ hsz⟩, Ext.here _⟩
    have := congrArg List.length e
    rw [List.length_map, List.length_map, nats_length, nats_length] at this
    exact this

end Go.Proofs.YtopcjlimjkfoiaaGreatDoor
namespace Go.Proofs.YtopcjlimjkfoiaaGreatDoor
open Go.RowKit
attribute [local go_sem] Ext.cell Ext.frozen Ext.lt Ext.lt_add Ext.cell2 Ext.frozen2

def monS : ByteArray := ⟨#[46, 46, 46, 74, 65, 78, 70, 69, 66, 77, 65, 82, 65, 80, 82, 77, 65, 89, 74, 85, 78, 74, 85, 76, 65, 85, 71, 83, 69, 80, 79, 67, 84, 78, 79, 86, 68, 69, 67]⟩
def dayS : ByteArray := ⟨#[83, 85, 78, 77, 79, 78, 84, 85, 69, 87, 69, 68, 84, 72, 85, 70, 82, 73, 83, 65, 84]⟩
def nameB (k v : Nat) : ByteArray := if k = 4 then monS.extract (3 * v) (3 * v + 3) else dayS.extract (3 * v) (3 * v + 3)

set_option maxRecDepth 100000 in
theorem name_any (k v : Nat) (h : (k = 4 ∧ 1 ≤ v ∧ v ≤ 12) ∨ (k = 5 ∧ v ≤ 6)) (w : World) :
    Calls Tryz.prog 117 #[.int .i64 k, .int .i64 v] w fun e w' => e = .returned (.string (nameB k v)) ∧ w' = w := by
  rcases h with ⟨rfl, h1, h2⟩ | ⟨rfl, h2⟩
  · have HL := Lib.hid (fun w => (show Calls Tryz.prog 91 #[.int .i64 4] w fun e w' => e = .returned (.int .i64 1) ∧ w' = w from low_any 4 w))
    have HH := Lib.hid (fun w => (show Calls Tryz.prog 92 #[.int .i64 4] w fun e w' => e = .returned (.int .i64 12) ∧ w' = w from high_any 4 w))
    have k1 : ¬ (v : Int) < 1 := by omega
    have k2 : (v : Int) ≤ 12 := by omega
    have k3 : (0 : Int) ≤ 3 * (v : Int) := by omega
    have k4 : 3 * (v : Int) + 3 ≤ 39 := by omega
    have k5 : (3 * (v : Int)).toNat = 3 * v := by omega
    have k6 : (3 * (v : Int) + 3).toNat = 3 * v + 3 := by omega
    have k7 : 3 * (v : Int) ≤ 3 * (v : Int) + 3 := by omega
    have e : nameB 4 v = monS.extract (3 * v) (3 * v + 3) := rfl
    rw [e]
    unfold monS
    go_enter Tryz.func117, Tryz.ntmps117
    go_wp2_with (first
      | (go_at_call 91; (with_reducible refine (HL.out _).mono ?_); rintro e w1 ⟨rfl, rfl⟩)
      | (go_at_call 92; (with_reducible refine (HH.out _).mono ?_); rintro e w1 ⟨rfl, rfl⟩))
    go_ret
    exact ⟨rfl, rfl⟩
  · have HL := Lib.hid (fun w => (show Calls Tryz.prog 91 #[.int .i64 5] w fun e w' => e = .returned (.int .i64 0) ∧ w' = w from low_any 5 w))
    have HH := Lib.hid (fun w => (show Calls Tryz.prog 92 #[.int .i64 5] w fun e w' => e = .returned (.int .i64 6) ∧ w' = w from high_any 5 w))
    have k1 : ¬ (v : Int) < 0 := by omega
    have k2 : (v : Int) ≤ 6 := by omega
    have k3 : (0 : Int) ≤ 3 * (v : Int) := by omega
    have k4 : 3 * (v : Int) + 3 ≤ 21 := by omega
    have k5 : (3 * (v : Int)).toNat = 3 * v := by omega
    have k6 : (3 * (v : Int) + 3).toNat = 3 * v + 3 := by omega
    have k7 : 3 * (v : Int) ≤ 3 * (v : Int) + 3 := by omega
    have e : nameB 5 v = dayS.extract (3 * v) (3 * v + 3) := rfl
    rw [e]
    unfold dayS
    go_enter Tryz.func117, Tryz.ntmps117
    go_wp2_with (first
      | (go_at_call 91; (with_reducible refine (HL.out _).mono ?_); rintro e w1 ⟨rfl, rfl⟩)
      | (go_at_call 92; (with_reducible refine (HH.out _).mono ?_); rintro e w1 ⟨rfl, rfl⟩))
    go_ret
    exact ⟨rfl, rfl⟩

def named (k : Nat) : Prop := k = 4 ∨ k = 5
def IsName (k v : Nat) (l : List Nat) : Prop := named k ∧ kLow k ≤ v ∧ v ≤ kHigh k ∧ (nats (nameB k v)).map upc = l.map upc
def ValFine (k : Nat) (l : List Nat) (n : Nat) : Prop := IsName k n l ∨ ((∀ v, ¬ IsName k v l) ∧ NumFine l n)
def ValRes (k : Nat) (s : ByteArray) (e : Ending) : Prop := ∃ n v : Nat, e = .returned (.tuple #[.int .i64 n, .int .i64 v]) ∧ n ≤ 1099511627776 ∧ v ≤ 2 ∧ (v = 1 → ValFine k (nats s) n)

set_option maxRecDepth 1000000 in
set_option maxHeartbeats 1000000 in
theorem value_plain (k : Nat) (hk : ¬ named k) (hk6 : k < 6) (s : ByteArray) (w : World) (hs : s.size < 100000000000) :
    Calls Tryz.prog 112 #[.int .i64 k, .string s] w fun e w' => ValRes k s e ∧ ∃ y : Ext w, w' = y.now := by
  have hn := Lib.hid (number_any s w hs)
  have k4 : ((k : Int) == 4) = false := beq_eq_false_iff_ne.2 (by unfold named at hk; omega)
  have k5 : ((k : Int) == 5) = false := beq_eq_false_iff_ne.2 (by unfold named at hk; omega)
  go_enter Tryz.func112, Tryz.ntmps112
  go_wp2_with (go_at_call 113; (with_reducible refine hn.out.mono ?_); rintro e w1 ⟨⟨n, v, rfl, h1, h2, h3⟩, rfl⟩)
  go_ret2
  exact ⟨⟨n, v, rfl, h1, h2, fun h => .inr ⟨fun v hv => hk hv.1, h3 h⟩⟩, Ext.here _⟩

set_option maxRecDepth 1000000 in
set_option maxHeartbeats 1000000 in
theorem value_named (k : Nat) (ki : Int) (hki : (k : Int) = ki) (hk : named k) (hk2 : ki = 4 ∨ ki = 5) (s : ByteArray) (w : World) (hs : s.size < 100000000000) :
    Calls Tryz.prog 112 #[.int .i64 ki, .string s] w fun e w' => ValRes k s e ∧ ∃ y : Ext w, w' = y.now := by
  have HLo := Lib.hid (fun w => low_any k w)
  have HHi := Lib.hid (fun w => high_any k w)
  have HNu := Lib.hid (fun W => number_any s W hs)
  have HFo := Lib.hid (fun W => foreign_any s W hs)
  have HNa := Lib.hid (fun (v : Nat) (h : kLow k ≤ v ∧ v ≤ kHigh k) (W : World) => name_any k v (by
    rcases hk with rfl | rfl
    · exact .inl ⟨rfl, h.1, h.2⟩
    · exact .inr ⟨rfl, h.2⟩) W)
  have hsz : ∀ v, (nameB k v).size < 100000000000 := by
    intro v
    have h1 : monS.size = 39 := rfl
    have h2 : dayS.size = 21 := rfl
    unfold nameB
    split <;> (rw [ByteArray.size_extract]; omega)
  have HSa := Lib.hid (fun (v : Nat) (W : World) => same_any (nameB k v) s W (hsz v) hs)
  have hlh : kLow k ≤ 1 ∧ kLow k ≤ kHigh k ∧ kHigh k ≤ 12 := by rcases hk with rfl | rfl <;> decide
  obtain ⟨lo1, lh, hi1⟩ := hlh
  have hIN := fun v => (show IsName k v (nats s) ↔ (kLow k ≤ v ∧ v ≤ kHigh k ∧ (nats (nameB k v)).map upc = (nats s).map upc) from ⟨fun h => ⟨h.2.1, h.2.2.1, h.2.2.2⟩, fun h => ⟨hk, h.1, h.2.1, h.2.2⟩⟩)
  have HIN := Lib.hid hIN
  clear hIN hsz
  generalize kLow k = lo at *
  generalize kHigh k = hi at *
  rw [hki] at HLo HHi HNa
  clear hki hk
  rcases hk2 with rfl | rfl
  all_goals
    go_enter Tryz.func112, Tryz.ntmps112
    go_wp2_with (go_at_call 91; (with_reducible refine (HLo.out _).mono ?_); rintro e w1 ⟨rfl, rfl⟩)
    go_loopw [7] (fun t wr => ∃ v : Nat, t = .int .i64 v ∧ lo ≤ v ∧ v ≤ hi + 1 ∧ (∀ u, lo ≤ u → u < v → ¬ (nats (nameB k u)).map upc = (nats s).map upc) ∧ ∃ x : Ext w1, wr = x.now) (fun t _ => hi + 1 - (intOf t).toNat)
    case atStart => exact ⟨lo, rfl, Nat.le_refl _, by omega, fun u h1 h2 => absurd h1 (by omega), Ext.here _⟩
    case round =>
      obtain ⟨v, rfl, hv1, hv2, hall, x, rfl⟩ := hrel
      have HALL := Lib.hid hall
      clear hall
      by_cases hle : v ≤ hi
      · have hle' : (v : Int) ≤ (hi : Int) := by omega
        have HNv := Lib.hid (HNa.out v ⟨hv1, hle⟩)
        have HSv := Lib.hid (HSa.out v)
        go_wp2_with (first
          | (go_at_call 92; (with_reducible refine (HHi.out _).mono ?_); rintro e w2 ⟨rfl, rfl⟩)
          | (go_at_call 117; (with_reducible refine (HNv.out _).mono ?_); rintro e w2 ⟨rfl, rfl⟩)
          | (go_at_call 116; (with_reducible refine (HSv.out _).mono ?_); rintro e w3 ⟨⟨r, rfl, hr⟩, z, rfl⟩; have HRR := Lib.hid hr; clear hr))
        · have hrt : r = true := by assumption
          have hr := HRR.out.1 hrt
          go_ret2
          exact ⟨⟨v, 1, rfl, by omega, by decide, fun _ => .inl ((HIN.out v).2 ⟨hv1, hle, hr⟩)⟩, Ext.both x z⟩
        · have hrf : r = false := by assumption
          refine ⟨⟨v + 1, by simp, by omega, by omega, fun u h1 h2 => ?_, Ext.both x z⟩, by simp [intOf]; omega⟩
          by_cases e : u = v
          · subst e
            intro e2
            have := HRR.out.2 e2
            rw [hrf] at this
            exact Bool.noConfusion this
          · exact HALL.out u h1 (by omega)
      · have hle' : ¬ (v : Int) ≤ (hi : Int) := by omega
        have hvh : v = hi + 1 := by omega
        have HVH : ∃ q, q = v ∧ q = hi + 1 := ⟨v, rfl, hvh⟩
        clear hvh
        cases hf : foreign (nats s) with
        | true =>
          rw [hf] at HFo
          go_wp2_with (first
            | (go_at_call 92; (with_reducible refine (HHi.out _).mono ?_); rintro e w2 ⟨rfl, rfl⟩)
            | (go_at_call 25; (with_reducible refine (HFo.out _).mono ?_); rintro e w2 ⟨rfl, rfl⟩))
          go_ret2
          exact ⟨⟨0, 2, rfl, by decide, by decide, fun h => absurd h (by decide)⟩, x, rfl⟩
        | false =>
          rw [hf] at HFo
          go_wp2_with (first
            | (go_at_call 92; (with_reducible refine (HHi.out _).mono ?_); rintro e w2 ⟨rfl, rfl⟩)
            | (go_at_call 25; (with_reducible refine (HFo.out _).mono ?_); rintro e w2 ⟨rfl, rfl⟩)
            | (go_at_call 113; (with_reducible refine (HNu.out _).mono ?_); rintro e w2 ⟨⟨n, vd, rfl, h1, h2, h3⟩, rfl⟩))
          go_ret2
          refine ⟨⟨n, vd, rfl, h1, h2, fun h => .inr ⟨fun u hu => ?_, h3 h⟩⟩, x, rfl⟩
          obtain ⟨a1, a2, a3⟩ := (HIN.out u).1 hu
          obtain ⟨q, rfl, h9⟩ := HVH
          exact HALL.out u a1 (by omega) a3

theorem value_any (k : Nat) (hk : k < 6) (s : ByteArray) (w : World) (hs : s.size < 100000000000) :
    Calls Tryz.prog 112 #[.int .i64 k, .string s] w fun e w' => ValRes k s e ∧ ∃ y : Ext w, w' = y.now := by
  by_cases h : named k
  · exact value_named k k rfl h (by unfold named at h; omega) s w hs
  · exact value_plain k h hk s w hs

end Go.Proofs.YtopcjlimjkfoiaaGreatDoor
namespace Go.Proofs.YtopcjlimjkfoiaaGreatDoor
open Go.RowKit
attribute [local go_sem] Ext.cell Ext.frozen Ext.lt Ext.lt_add Ext.cell2 Ext.frozen2

theorem results_tmp5 {fn : Func} {a b c d f : Tmp} (h : fn.results = #[.tmp a, .tmp b, .tmp c, .tmp d, .tmp f]) (tmps : Array Value) (P : Program) (w : World) :
    (results fn tmps).run P w = .ok (.tuple #[tmps.getD a undef, tmps.getD b undef, tmps.getD c undef, tmps.getD d undef, tmps.getD f undef]) w := by
  simp [results, h]

def StepFine (l : List Nat) (n : Nat) : Prop := NumFine l n ∧ 0 < n ∧ n < 1099511627776
def StepRes (s : ByteArray) (e : Ending) : Prop := ∃ n v : Nat, e = .returned (.tuple #[.int .i64 n, .int .i64 v]) ∧ n ≤ 1099511627776 ∧ v ≤ 2 ∧ (v = 1 → StepFine (nats s) n)

set_option maxRecDepth 1000000 in
theorem step_any (s : ByteArray) (w : World) (hs : s.size < 100000000000) :
    Calls Tryz.prog 108 #[.string s] w fun e w' => StepRes s e ∧ w' = w := by
  have hn := Lib.hid (number_any s w hs)
  go_enter Tryz.func108, Tryz.ntmps108
  go_wp2_with (go_at_call 113; (with_reducible refine hn.out.mono ?_); rintro e w1 ⟨⟨n, v, rfl, h1, h2, h3⟩, rfl⟩; have H3 := Lib.hid h3; clear h3)
  · go_ret2
    exact ⟨⟨0, 0, rfl, by decide, by decide, fun h => absurd h (by decide)⟩, rfl⟩
  · go_ret2
    exact ⟨⟨0, 0, rfl, by decide, by decide, fun h => absurd h (by decide)⟩, rfl⟩
  · go_ret2
    exact ⟨⟨0, 2, rfl, by decide, by decide, fun h => absurd h (by decide)⟩, rfl⟩
  · go_ret2
    have k1 : (((n : Int) == 0) = false) ∧ (((n : Int) == 1099511627776) = false) := ⟨by simp_all, by assumption⟩
    exact ⟨⟨n, v, rfl, h1, h2, fun h => ⟨H3.out h, by have := beq_eq_false_iff_ne.1 k1.1; omega, by have := beq_eq_false_iff_ne.1 k1.2; omega⟩⟩, rfl⟩

theorem pieces_c (s : ByteArray) (c : Nat) (ci : Int) (hci : (c : Int) = ci) (hc : c < 256) (w : World) (hs : s.size < 100000000000) :
    Calls Tryz.prog 88 #[.string s, .int .u8 ci] w fun e w' => StrsRes w (fun ds => ds.map nats = pieces c (nats s) ∧ ds.length ≤ s.size + 1) e w' := by
  subst hci
  exact pieces_any s c hc w hs

theorem pieces_len {c : Nat} {l : List Nat} : ∀ p ∈ pieces c l, p.length ≤ l.length := by
  induction l with
  | nil => intro p hp; simp [pieces] at hp; subst hp; simp
  | cons x r ih =>
    intro p hp
    unfold pieces at hp
    split at hp
    · rcases List.mem_cons.1 hp with rfl | hp
      · simp
      · have := ih p hp; simp; omega
    · cases hr : pieces c r with
      | nil => exact absurd hr (pieces_ne _ _)
      | cons q qs =>
        rw [hr] at hp ih
        rcases List.mem_cons.1 hp with rfl | hp
        · have := ih q (List.mem_cons_self ..); simp; omega
        · have := ih p (List.mem_cons_of_mem _ hp); simp; omega

theorem pieces_small {c : Nat} {s : ByteArray} {ds : List ByteArray} (h : ds.map nats = pieces c (nats s)) : ∀ d ∈ ds, d.size ≤ s.size := by
  intro d hd
  have := pieces_len (c := c) (l := nats s) (nats d) (by rw [← h]; exact List.mem_map_of_mem hd)
  rw [nats_length, nats_length] at this
  exact this

def EndsFine (k lo hi : Nat) (l : List Nat) (a b : Nat) (star single : Bool) : Prop :=
  (star = true ∧ single = true ∧ a = lo ∧ b = hi ∧ (pieces 45 l = [[42]] ∨ (pieces 45 l = [[63]] ∧ (k = 3 ∨ k = 5)))) ∨
  (star = false ∧ single = true ∧ b = a ∧ ∃ x, pieces 45 l = [x] ∧ x ≠ [42] ∧ x ≠ [63] ∧ ValFine k x a) ∨
  (star = false ∧ single = false ∧ ∃ x y, pieces 45 l = [x, y] ∧ x ≠ [42] ∧ x ≠ [63] ∧ ValFine k x a ∧ ValFine k y b)
def EndsRes (k lo hi : Nat) (s : ByteArray) (e : Ending) : Prop := ∃ (a b v : Nat) (star single : Bool),
  e = .returned (.tuple #[.int .i64 a, .int .i64 b, .bool star, .bool single, .int .i64 v]) ∧ a ≤ 1099511627776 ∧ b ≤ 1099511627776 ∧ v ≤ 2 ∧ (v = 1 → EndsFine k lo hi (nats s) a b star single)

set_option maxRecDepth 1000000 in
set_option maxHeartbeats 1000000 in
theorem ends_any (k lo hi : Nat) (hk : k < 6) (hlo : lo < 100) (hhi : hi < 100) (s : ByteArray) (w : World) (hs : s.size < 100000000000) :
    Calls Tryz.prog 107 #[.agg #[.int .i64 lo, .int .i64 hi, .int .i64 k], .string s] w fun e w' => EndsRes k lo hi s e ∧ ∃ y : Ext w, w' = y.now := by
  have hp := Lib.hid (fun W => pieces_c s 45 45 rfl (by decide) W hs)
  have hv := Lib.hid (fun (d : ByteArray) (hd : d.size < 100000000000) (W : World) => value_any k hk d W hd)
  have hw := Lib.hid (fun (a b : Nat) (ha : a < 1000) (hb : b < 1000) (W : World) => worse_any a b ha hb W)
  go_enter Tryz.func107, Tryz.ntmps107
  go_wp2_with (go_at_call 88; (with_reducible refine (hp.out _).mono ?_))
  rintro e w1 ⟨g, cap, ds, rfl, ⟨hds, hlen⟩, hrow, y, rfl⟩
  have hss := fun (d : ByteArray) (hd : d ∈ ds) => pieces_small hds d hd
  obtain ⟨d0, r, rfl⟩ : ∃ d0 r, ds = d0 :: r := by
    cases ds with
    | nil => exact absurd hds.symm (pieces_ne _ _)
    | cons d0 r => exact ⟨d0, r, rfl⟩
  have c0 := hrow.get 0 (by simp)
  have hg := hrow.lt
  rw [show ((d0 :: r).getD 0 ByteArray.empty) = d0 from rfl] at c0
  have hz := Lib.hid (hv.out d0 (by have := hss d0 (by simp); omega))
  have hl0 : (d0 :: r).length = r.length + 1 := rfl
  by_cases he : d0.toList = [42] ∨ d0.toList = [63]
  · by_cases hr : r = []
    · subst hr
      have HD : [nats d0] = pieces 45 (nats s) := hds
      have HDS := Lib.hid HD
      clear hds hrow hss hv hz hlen HD hl0
      rw [show [d0].length = 1 from rfl]
      rcases he with e1 | e1
      · have hn0 := Lib.hid (show nats d0 = [42] by unfold nats; rw [← Lib.toList_data, e1]; rfl)
        go_wp2
        refine wp_region_ext (by kernel_rfl) (by kernel_rfl) ?_
        repeat (quiet_step (fail))
        refine wpQuiet_nil ?_
        rintro w1 ⟨y1, rfl⟩
        go_wp2
        ((try simp only [Exit.inBlock, Exit.then]); refine bodyPost_ret (results_tmp5 rfl _ _ _) rfl ?_)
        exact ⟨⟨lo, hi, 1, true, true, rfl, by omega, by omega, by decide, fun _ => .inl ⟨rfl, rfl, rfl, rfl, .inl (by rw [← HDS.out, hn0.out])⟩⟩, (y.trans y1).via⟩
      · have hn0 := Lib.hid (show nats d0 = [63] by unfold nats; rw [← Lib.toList_data, e1]; rfl)
        have e2 : ¬ d0.toList = [42] := by rw [e1]; decide
        rcases (show k = 3 ∨ k = 5 ∨ (¬ k = 3 ∧ ¬ k = 5) by omega) with rfl | rfl | ⟨k3, k5⟩
        · go_wp2
          refine wp_region_ext (by kernel_rfl) (by kernel_rfl) ?_
          repeat (quiet_step (fail))
          refine wpQuiet_nil ?_
          rintro w1 ⟨y1, rfl⟩
          go_wp2
          ((try simp only [Exit.inBlock, Exit.then]); refine bodyPost_ret (results_tmp5 rfl _ _ _) rfl ?_)
          exact ⟨⟨lo, hi, 1, true, true, rfl, by omega, by omega, by decide, fun _ => .inl ⟨rfl, rfl, rfl, rfl, .inr ⟨by rw [← HDS.out, hn0.out], .inl rfl⟩⟩⟩, (y.trans y1).via⟩
        · go_wp2
          refine wp_region_ext (by kernel_rfl) (by kernel_rfl) ?_
          repeat (quiet_step (fail))
          refine wpQuiet_nil ?_
          rintro w1 ⟨y1, rfl⟩
          go_wp2
          ((try simp only [Exit.inBlock, Exit.then]); refine bodyPost_ret (results_tmp5 rfl _ _ _) rfl ?_)
          exact ⟨⟨lo, hi, 1, true, true, rfl, by omega, by omega, by decide, fun _ => .inl ⟨rfl, rfl, rfl, rfl, .inr ⟨by rw [← HDS.out, hn0.out], .inr rfl⟩⟩⟩, (y.trans y1).via⟩
        · have k3' : ((k : Int) == 3) = false := beq_eq_false_iff_ne.2 (by omega)
          have k5' : ((k : Int) == 5) = false := beq_eq_false_iff_ne.2 (by omega)
          have k3'' : ((k : Int) != 3) = true := bne_iff_ne.2 (by omega)
          have k5'' : ((k : Int) != 5) = true := bne_iff_ne.2 (by omega)
          go_wp2
          refine wp_region_ext (by kernel_rfl) (by kernel_rfl) ?_
          repeat (quiet_step (fail))
          refine wpQuiet_nil ?_
          rintro w1 ⟨y1, rfl⟩
          go_wp2
          ((try simp only [Exit.inBlock, Exit.then]); refine bodyPost_ret (results_tmp5 rfl _ _ _) rfl ?_)
          exact ⟨⟨lo, hi, 2, true, _, rfl, by omega, by omega, by decide, fun h => absurd h (by decide)⟩, (y.trans y1).via⟩
    · have hn : 1 < (d0 :: r).length := by
        have := List.length_pos_iff.2 hr
        omega
      generalize (d0 :: r).length = n at *
      have n1 : (1 : Int) < (n : Int) := by omega
      have n2 : ((n : Int) == 1) = false := beq_eq_false_iff_ne.2 (by omega)
      clear hds hrow hss hv hz hlen hl0 hr
      rcases he with e1 | e1
      · go_wp2
        refine wp_region_ext (by kernel_rfl) (by kernel_rfl) ?_
        repeat (quiet_step (fail))
        refine wpQuiet_nil ?_
        rintro w1 ⟨y1, rfl⟩
        go_wp2
        ((try simp only [Exit.inBlock, Exit.then]); refine bodyPost_ret (results_tmp5 rfl _ _ _) rfl ?_)
        exact ⟨⟨lo, hi, 2, true, _, rfl, by omega, by omega, by decide, fun h => absurd h (by decide)⟩, (y.trans y1).via⟩
      · have e2 : ¬ d0.toList = [42] := by rw [e1]; decide
        go_wp2
        refine wp_region_ext (by kernel_rfl) (by kernel_rfl) ?_
        repeat (quiet_step (fail))
        refine wpQuiet_nil ?_
        rintro w1 ⟨y1, rfl⟩
        go_wp2
        ((try simp only [Exit.inBlock, Exit.then]); refine bodyPost_ret (results_tmp5 rfl _ _ _) rfl ?_)
        exact ⟨⟨lo, hi, 2, true, _, rfl, by omega, by omega, by decide, fun h => absurd h (by decide)⟩, (y.trans y1).via⟩
  · have ne1 : ¬ d0.toList = [42] := fun h => he (.inl h)
    have ne2 : ¬ d0.toList = [63] := fun h => he (.inr h)
    have N1 : nats d0 ≠ [42] := fun h => by
      have := lit_nats d0 [42]
      rw [h] at this
      exact ne1 (by simpa using this)
    have N2 : nats d0 ≠ [63] := fun h => by
      have := lit_nats d0 [63]
      rw [h] at this
      exact ne2 (by simpa using this)
    have HN := Lib.hid (And.intro N1 N2)
    clear N1 N2 he
    have nb1 : (d0.toList == [42]) = false := beq_eq_false_iff_ne.2 ne1
    have nb2 : (d0.toList == [63]) = false := beq_eq_false_iff_ne.2 ne2
    clear ne1 ne2
    rcases r with _ | ⟨d1, _ | ⟨d2, r⟩⟩
    · have HD : [nats d0] = pieces 45 (nats s) := hds
      have HDS := Lib.hid HD
      clear hds hrow hss hv hlen HD hl0
      rw [show [d0].length = 1 from rfl]
      go_wp2
      refine wp_region_plan 10 [(0, false), (1, false), (2, false), (3, false), (4, false), (5, true), (6, false), (7, false), (8, false), (9, false)] (fun w' => ∃ x : Ext y.now, w' = x.now)
        (by kernel_rfl) (by kernel_rfl) (fun _ _ d _ _ h => by cases d <;> exact h) ⟨Ext.drewn _, rfl⟩ ?_
      iterate 5 (refine plan_read rfl (fun K hK => ?_); go_simp; refine hK _ ?_; clear hK K)
      refine plan_step rfl (fun K hK => ?_); go_simp
      refine (hz.out _).mono ?_; rintro e w1 ⟨⟨n, v, rfl, h1, h2, h3⟩, z, rfl⟩
      have H := Lib.hid h3
      clear h3
      refine hK _ _ ⟨(Ext.drewn _).trans z, rfl⟩ ?_; clear hK K
      iterate 4 (refine plan_read rfl (fun K hK => ?_); go_simp; refine hK _ ?_; clear hK K)
      refine plan_nil ?_
      simp only [List.drop_succ_cons, List.drop_zero]
      go_wp2
      ((try simp only [Exit.inBlock, Exit.then]); refine bodyPost_ret (results_tmp5 rfl _ _ _) rfl ?_)
      exact ⟨⟨n, n, v, false, true, rfl, h1, h1, h2, fun e => .inr (.inl ⟨rfl, rfl, rfl, nats d0, HDS.out.symm, HN.out.1, HN.out.2, H.out e⟩)⟩, (y.trans ((Ext.drewn _).trans z)).via⟩
    · have HD : [nats d0, nats d1] = pieces 45 (nats s) := hds
      have HDS := Lib.hid HD
      have c1 := hrow.get 1 (by simp)
      rw [show ([d0, d1].getD 1 ByteArray.empty) = d1 from rfl] at c1
      have hz1 := Lib.hid (hv.out d1 (by have := hss d1 (by simp); omega))
      clear hds hrow hss hv hlen HD hl0
      rw [show [d0, d1].length = 2 from rfl]
      go_wp2
      refine wp_region_plan 10 [(0, false), (1, false), (2, false), (3, false), (4, false), (5, true), (6, false), (7, false), (8, false), (9, false)] (fun w' => ∃ x : Ext y.now, w' = x.now)
        (by kernel_rfl) (by kernel_rfl) (fun _ _ d _ _ h => by cases d <;> exact h) ⟨Ext.drewn _, rfl⟩ ?_
      iterate 5 (refine plan_read rfl (fun K hK => ?_); go_simp; refine hK _ ?_; clear hK K)
      refine plan_step rfl (fun K hK => ?_); go_simp
      refine (hz.out _).mono ?_; rintro e w1 ⟨⟨n, v, rfl, h1, h2, h3⟩, z, rfl⟩
      have H := Lib.hid h3
      clear h3
      refine hK _ _ ⟨(Ext.drewn _).trans z, rfl⟩ ?_; clear hK K
      iterate 4 (refine plan_read rfl (fun K hK => ?_); go_simp; refine hK _ ?_; clear hK K)
      refine plan_nil ?_
      simp only [List.drop_succ_cons, List.drop_zero]
      obtain ⟨z2, hz2⟩ : ∃ q : Ext y.now, z.now = q.now := ⟨(Ext.drewn _).trans z, rfl⟩
      rw [hz2]
      clear hz2 z
      go_wp2
      refine wp_region_plan 10 [(0, false), (1, false), (2, false), (3, false), (4, false), (5, true), (6, false), (7, false), (8, false), (9, false)] (fun w' => ∃ x : Ext y.now, w' = x.now)
        (by kernel_rfl) (by kernel_rfl) (fun _ _ d _ _ h => by cases d <;> exact h) ⟨z2.trans (Ext.drewn _), rfl⟩ ?_
      iterate 5 (refine plan_read rfl (fun K hK => ?_); go_simp; refine hK _ ?_; clear hK K)
      refine plan_step rfl (fun K hK => ?_); go_simp
      refine (hz1.out _).mono ?_; rintro e w1 ⟨⟨m, u, rfl, j1, j2, j3⟩, x, rfl⟩
      have J := Lib.hid j3
      clear j3
      refine hK _ _ ⟨(z2.trans (Ext.drewn _)).trans x, rfl⟩ ?_; clear hK K
      iterate 4 (refine plan_read rfl (fun K hK => ?_); go_simp; refine hK _ ?_; clear hK K)
      refine plan_nil ?_
      simp only [List.drop_succ_cons, List.drop_zero]
      have HWW := Lib.hid (hw.out v u (by omega) (by omega))
      go_wp2_with (go_at_call 26; (with_reducible refine (HWW.out _).mono ?_); rintro e w2 ⟨rfl, rfl⟩)
      ((try simp only [Exit.inBlock, Exit.then]); refine bodyPost_ret (results_tmp5 rfl _ _ _) rfl ?_)
      refine ⟨⟨n, m, worseV v u, false, false, rfl, h1, j1, by unfold worseV; split <;> omega, fun e => .inr (.inr ⟨rfl, rfl, nats d0, nats d1, HDS.out.symm, HN.out.1, HN.out.2, H.out (worse_fine.1 e).1, J.out (worse_fine.1 e).2⟩)⟩, (y.trans ((z2.trans (Ext.drewn _)).trans x)).via⟩
    · have hn : 2 < (d0 :: d1 :: d2 :: r).length := by simp
      generalize (d0 :: d1 :: d2 :: r).length = n at *
      have n1 : (1 : Int) < (n : Int) := by omega
      have n0 : 0 < n := by omega
      have n2 : ((n : Int) == 1) = false := beq_eq_false_iff_ne.2 (by omega)
      have n3 : ((n : Int) == 2) = false := beq_eq_false_iff_ne.2 (by omega)
      clear hds hrow hss hv hlen hl0
      go_wp2
      refine wp_region_plan 10 [(0, false), (1, false), (2, false), (3, false), (4, false), (5, true), (6, false), (7, false), (8, false), (9, false)] (fun w' => ∃ x : Ext y.now, w' = x.now)
        (by kernel_rfl) (by kernel_rfl) (fun _ _ d _ _ h => by cases d <;> exact h) ⟨Ext.drewn _, rfl⟩ ?_
      iterate 5 (refine plan_read rfl (fun K hK => ?_); go_simp; refine hK _ ?_; clear hK K)
      refine plan_step rfl (fun K hK => ?_); go_simp
      refine (hz.out _).mono ?_; rintro e w1 ⟨⟨m, v, rfl, h1, h2, h3⟩, z, rfl⟩
      have H := Lib.hid h3
      clear h3
      refine hK _ _ ⟨(Ext.drewn _).trans z, rfl⟩ ?_; clear hK K
      iterate 4 (refine plan_read rfl (fun K hK => ?_); go_simp; refine hK _ ?_; clear hK K)
      refine plan_nil ?_
      simp only [List.drop_succ_cons, List.drop_zero]
      go_wp2
      ((try simp only [Exit.inBlock, Exit.then]); refine bodyPost_ret (results_tmp5 rfl _ _ _) rfl ?_)
      exact ⟨⟨0, 0, 0, false, false, rfl, by decide, by decide, by decide, fun e => absurd e (by decide)⟩, (y.trans ((Ext.drewn _).trans z)).via⟩

end Go.Proofs.YtopcjlimjkfoiaaGreatDoor
namespace Go.Proofs.YtopcjlimjkfoiaaGreatDoor
open Go.RowKit

def Bs (cs : Array Value) (n : Nat) : Prop := cs.size = n ∧ ∀ j, j < n → ∃ b, cs[j]? = some (.bool b)
structure BB (w : World) (g n : Nat) : Prop where
  lt : g < w.heap.size
  at_ : ∀ j, j < n → ∃ b, w.cell? ⟨g, j, none⟩ = some (.bool b)
  fz : ∀ j, j < n → w.frozen? ⟨g, j, none⟩ = false

theorem Bs.part {cs : Array Value} {n : Nat} (h : Bs cs n) (a k : Nat) (hk : a + k ≤ n) : Bs (cs.extract a (a + k)) k := by
  refine ⟨by rw [Array.size_extract, h.1]; omega, fun j hj => ?_⟩
  obtain ⟨b, hb⟩ := h.2 (a + j) (by omega)
  refine ⟨b, ?_⟩
  rw [Array.getElem?_extract, if_pos (by rw [h.1]; omega)]
  exact hb

theorem BB.alloc {w : World} {cs : Array Value} {n : Nat} (h : Bs cs n) (t : TypeId) : BB (w.alloc (.cells cs t)) w.heap.size n := by
  refine ⟨by simp, fun j hj => ?_, fun j hj => ?_⟩
  · obtain ⟨b, hb⟩ := h.2 j hj
    refine ⟨b, ?_⟩
    rw [cell_of_row _ _ j cs t (0, 0) (heap_alloc_new w _)]
    exact hb
  · have h1 := heap_alloc_new w (.cells cs t)
    unfold World.frozen?
    simp only [h1]
    simp

theorem BB.ext {w : World} {g n : Nat} (h : BB w g n) (x : Ext w) : BB x.now g n :=
  ⟨x.lt _ h.lt, fun j hj => by rw [x.cell _ _ h.lt]; exact h.at_ j hj, fun j hj => by rw [x.frozen _ _ h.lt]; exact h.fz j hj⟩

theorem BB.grow {w : World} {g n : Nat} (h : BB w g n) (o : Obj) : BB (w.alloc o) g n := h.ext (Ext.one w o)

theorem BB.set {w : World} {g n : Nat} (h : BB w g n) (G o : Nat) (b : Bool) : BB (w.setCell ⟨G, o, none⟩ (.bool b)) g n := by
  refine ⟨by simpa [World.setCell] using h.lt, fun j hj => ?_, fun j hj => by rw [World.frozen?_setCell]; exact h.fz j hj⟩
  obtain ⟨c, hc⟩ := h.at_ j hj
  by_cases e : (⟨G, o, none⟩ : Addr) = ⟨g, j, none⟩
  · rw [e]
    exact ⟨b, World.cell?_setCell_same _ _ _ hc⟩
  · exact ⟨c, by rw [World.cell?_setCell_other _ _ _ _ e]; exact hc⟩

theorem setCells_lt (G : Nat) : ∀ (vs : List Value) (o : Nat) (w : World), (w.setCells G o vs).heap.size = w.heap.size
  | [], _, _ => rfl
  | v :: r, o, w => by rw [World.setCells, setCells_lt G r]; simp [World.setCell]

theorem Ext.rows {w : World} (G : Nat) (hG : w.heap.size ≤ G) : ∀ (vs : List Value) (o : Nat) (x : Ext w), ∃ y : Ext w, x.now.setCells G o vs = y.now
  | [], _, x => ⟨x, rfl⟩
  | v :: r, o, x => by
    obtain ⟨y, hy⟩ := Ext.of (x.below.setCell (p := ⟨G, o, none⟩) hG v)
    rw [World.setCells, hy]
    exact Ext.rows G hG r (o + 1) y

theorem BB.rows {w : World} {g n : Nat} (h : BB w g n) {G m : Nat} (cs : Array Value) (hc : Bs cs m) (hn : g = G → n = m) : BB (w.setCells G 0 cs.toList) g n := by
  refine ⟨by rw [setCells_lt]; exact h.lt, fun j hj => ?_, fun j hj => by rw [World.frozen?_setCells]; exact h.fz j hj⟩
  by_cases e : g = G
  · subst e
    have hm := hn rfl
    subst hm
    have := World.cell?_setCells_in g cs.toList 0 w (fun j hj => by obtain ⟨b, hb⟩ := h.at_ j (by simpa [hc.1] using hj); simp only [Nat.zero_add]; rw [hb]; rfl) j (by simp [hc.1]; omega)
    obtain ⟨b, hb⟩ := hc.2 j hj
    refine ⟨b, ?_⟩
    rw [Nat.zero_add] at this
    rw [this, ← hb]
    simp
  · rw [World.cell?_setCells_out G cs.toList 0 w _ (fun h1 _ => absurd h1 e)]
    exact h.at_ j hj

theorem BB.get {P : Program} {w : World} {g n : Nat} (h : BB w g n) (o k : Nat) (hk : o + k ≤ n) :
    ∃ cs, Bs cs k ∧ (loadCellsFrom ⟨g, o, none⟩ 0 k #[]).run P w = .ok cs w := by
  have hadd : ∀ j, (⟨g, o, none⟩ : Addr).add j = ⟨g, o + j, none⟩ := fun j => by unfold Addr.add; split <;> simp_all
  have hl := run_loadCells (P := P) w ⟨g, o, none⟩ k (fun j => (w.cell? ⟨g, o + j, none⟩).getD undef) (fun j hj => by
    obtain ⟨b, hb⟩ := h.at_ (o + j) (by omega)
    rw [hadd, hb]
    rfl)
  refine ⟨_, ⟨by simp, fun j hj => ?_⟩, hl⟩
  obtain ⟨b, hb⟩ := h.at_ (o + j) (by omega)
  refine ⟨b, ?_⟩
  simp [hj, hb]

theorem run_bools {P : Program} {w : World} {g n : Nat} (h : BB w g n) {cs : Array Value} (hc : Bs cs n) :
    (storeCells ⟨g, 0, none⟩ cs.toList 0).run P w = .ok () (w.setCells g 0 cs.toList) := by
  have := run_storeCells_cells (P := P) g 0 cs.toList 0 w
    (fun j hj => by obtain ⟨b, hb⟩ := h.at_ j (by simpa [hc.1] using hj); simp only [Nat.zero_add]; rw [hb]; rfl)
    (fun j hj => by simp only [Nat.zero_add]; exact h.fz j (by simpa [hc.1] using hj))
    (fun v hv => by
      obtain ⟨j, hj, rfl⟩ := List.getElem_of_mem hv
      obtain ⟨b, hb⟩ := hc.2 j (by simpa [hc.1] using hj)
      rw [Array.getElem?_eq_some_iff] at hb
      obtain ⟨_, hb⟩ := hb
      rw [Array.getElem_toList, hb]
      rfl)
  exact this

def aggD : TypeDesc → Bool
  | .struct _ => true
  | .array _ _ => true
  | _ => false

def aggT (P : Program) (ty : TypeId) : Bool := match P.underlying ty with
  | some d => aggD d
  | none => false
theorem aggT.out {P : Program} {ty : TypeId} (h : aggT P ty = true) : ∃ d, P.underlying ty = some d ∧ aggD d = true := by
  unfold aggT at h
  split at h
  · exact ⟨_, by assumption, h⟩
  · cases h

section
variable {P : Program} {ops : Array Oper} {rest : List Oper} {o : Oper} {a : Act} {w : World} {Q : Exit → Act → World → Prop}

theorem run_loadVar_bools {ty : TypeId} {g off n k : Nat} (hb : BB w g n) (hk : off + k ≤ n) (hu : aggT P ty = true)
    (hi : (P.info? ty).map (·.size) = some k) :
    ∃ cs, Bs cs k ∧ (loadVar ty ⟨g, off, none⟩).run P w = .ok (.agg cs) w := by
  obtain ⟨cs, hc, hl⟩ := hb.get (P := P) off k hk
  obtain ⟨d, hu, hd⟩ := aggT.out hu
  refine ⟨cs, hc, ?_⟩
  cases hq : P.info? ty with
  | none => simp [hq] at hi
  | some i =>
    have hs : i.size = k := by simpa [hq] using hi
    have hagg : (isAgg ty).run P w = .ok true w := by
      unfold isAgg
      rw [Sem.run_bind, run_underlying hu w]
      cases d <;> simp_all [aggD]
    have hl' : (loadCells ⟨g, off, none⟩ k).run P w = .ok cs w := hl
    simp [loadVar, Sem.run_bind, hagg, sizeOf, typeInfo, hq, hs, hl']

theorem run_storeVar_bools {ty : TypeId} {g n : Nat} (hb : BB w g n) {cs : Array Value} (hc : Bs cs n) (hi : (P.info? ty).map (·.size) = some n) :
    (storeVar ty ⟨g, 0, none⟩ (.agg cs)).run P w = .ok () (w.setCells g 0 cs.toList) := by
  have hr := run_bools (P := P) hb hc
  cases hq : P.info? ty with
  | none => simp [hq] at hi
  | some i =>
    have hs : cs.size = i.size := by simp [hq] at hi; rw [hc.1]; omega
    simp [storeVar, sizeOf, typeInfo, hq, Value.cells, hs, hr]

theorem wpList_load_bools (hg : o.guard = none) (ty : TypeId) (x : Operand) (ho : o.op = .load ty x) (g off n k : Nat) (hx : a.eval x = .pointer (some ⟨g, off, none⟩)) (hb : BB w g n) (hk : off + k ≤ n) (hu : aggT P ty = true)
    (hi : (P.info? ty).map (·.size) = some k)
    (h : ∀ cs, Bs cs k → wpList P ops Q rest (a.put o.dst (.agg cs)) w) : wpList P ops Q (o :: rest) a w := by
  obtain ⟨cs, hc, hl⟩ := run_loadVar_bools (P := P) hb hk hu hi
  refine wpList_plain hg fun K hK => ?_
  unfold Oper.wp execOp
  simp only [ho, hx, Instr.loadAt, Instr.sureAddr, Sem.run_bind, Sem.run_pure, Result.andThen_ok, hl]
  exact hK _ _ (h cs hc)

theorem wpList_store_bools (hg : o.guard = none) (ty : TypeId) (x y : Operand) (ho : o.op = .store ty x y) (g n : Nat) (cs : Array Value) (hx : a.eval x = .pointer (some ⟨g, 0, none⟩)) (hy : a.eval y = .agg cs)
    (hb : BB w g n) (hc : Bs cs n) (hi : (P.info? ty).map (·.size) = some n)
    (h : ∀ w', w' = w.setCells g 0 cs.toList → wpList P ops Q rest (a.put o.dst undef) w') : wpList P ops Q (o :: rest) a w := by
  refine wpList_plain hg fun K hK => ?_
  unfold Oper.wp execOp
  simp only [ho, hx, hy, Instr.storeAt, Instr.sureAddr, Sem.run_bind, Sem.run_pure, Result.andThen_ok, run_storeVar_bools hb hc hi]
  exact hK _ _ (h _ rfl)

theorem ret_bools {fn : Func} {R : Ending → World → Prop} {p : Tmp} {ty : TypeId} (h : fn.results = #[.cell p ty]) (g n : Nat) (hp : a.tmps.getD p undef = .pointer (some ⟨g, 0, none⟩)) (hb : BB w g n)
    (hu : aggT P ty = true) (hi : (P.info? ty).map (·.size) = some n) (hd : a.defers = []) (hR : ∀ cs, Bs cs n → R (.returned (.agg cs)) w) : bodyPost P fn R .ret a w := by
  obtain ⟨cs, hc, hl⟩ := run_loadVar_bools (P := P) (off := 0) hb (by omega) hu hi
  have hp' : a.tmps[p]?.getD undef = .pointer (some ⟨g, 0, none⟩) := by simpa using hp
  exact bodyPost_ret (v := .agg cs) (by simp [results, h, hp', asAddr, hl]) hd (hR cs hc)

theorem ret_bools2 {fn : Func} {R : Ending → World → Prop} {p q : Tmp} {ty : TypeId} (h : fn.results = #[.cell p ty, .tmp q]) (g n : Nat) (hp : a.tmps.getD p undef = .pointer (some ⟨g, 0, none⟩)) (hb : BB w g n)
    (hu : aggT P ty = true) (hi : (P.info? ty).map (·.size) = some n) (hd : a.defers = []) (hR : ∀ cs, Bs cs n → R (.returned (.tuple #[.agg cs, a.tmps.getD q undef])) w) : bodyPost P fn R .ret a w := by
  obtain ⟨cs, hc, hl⟩ := run_loadVar_bools (P := P) (off := 0) hb (by omega) hu hi
  have hp' : a.tmps[p]?.getD undef = .pointer (some ⟨g, 0, none⟩) := by simpa using hp
  exact bodyPost_ret (v := .tuple #[.agg cs, a.tmps.getD q undef]) (by simp [results, h, hp', asAddr, hl, Sem.run_bind]) hd (hR cs hc)

theorem Bs.falses (n : Nat) : Bs (Array.replicate n (.bool false)) n := ⟨by simp, fun j hj => ⟨false, by simp [hj]⟩⟩
end

section
variable {P : Program} {ops : Array Oper} {rest : List Oper} {a : Act} {w : World} {Q : Exit → Act → World → Prop}
theorem at_load (T : TypeId) {d : Option Tmp} {x : Operand} {t : TypeId} {p : String} {af : Array Edge} {g : Option (Nat × Bool)} (h : wpList P ops Q (⟨d, .load T x, t, p, af, g⟩ :: rest) a w) : wpList P ops Q (⟨d, .load T x, t, p, af, g⟩ :: rest) a w := h
theorem at_store (T : TypeId) {d : Option Tmp} {x y : Operand} {t : TypeId} {p : String} {af : Array Edge} {g : Option (Nat × Bool)} (h : wpList P ops Q (⟨d, .store T x y, t, p, af, g⟩ :: rest) a w) : wpList P ops Q (⟨d, .store T x y, t, p, af, g⟩ :: rest) a w := h
theorem at_alloc (T : TypeId) {d : Option Tmp} {t : TypeId} {p : String} {af : Array Edge} {g : Option (Nat × Bool)} (h : wpList P ops Q (⟨d, .alloc T, t, p, af, g⟩ :: rest) a w) : wpList P ops Q (⟨d, .alloc T, t, p, af, g⟩ :: rest) a w := h
end

end Go.Proofs.YtopcjlimjkfoiaaGreatDoor
