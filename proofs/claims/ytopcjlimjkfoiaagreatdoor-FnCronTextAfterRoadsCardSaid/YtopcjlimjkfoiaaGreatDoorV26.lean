/-
FnCronTextAfterRoads: the calendar, the schedules, their texts and the zones, part 26 of 34.
-/
import Derived.Test.YtopcjlimjkfoiaaGreatDoorV25
set_option linter.all false
namespace Go.Proofs.YtopcjlimjkfoiaaGreatDoor
open Go.RowKit
attribute [local go_sem] Ext.cell Ext.frozen Ext.lt Ext.lt_add Ext.cell2 Ext.frozen2

theorem all_any (lo hi : Nat) (h1 : lo < 60) (h2 : hi < 60) : ∃ b : Nat, b < 18446744073709551616 ∧ ∀ (w : World) (r : Option Nat), Calls Tryz.prog 75 #[.agg #[.int .u64 lo, .int .u64 hi, .map r]] w fun e w' => e = .returned (.int .u64 b) ∧ ∃ y : Ext w, w' = y.now := by
  obtain ⟨g, hg, hget⟩ := getBits_any lo hi 1 h1 h2 (by decide) (by decide)
  obtain ⟨b, hb, hbe⟩ := bits_u64 .or (.inr rfl) (g : Int) 9223372036854775808
  refine ⟨b, hb, fun w r => ?_⟩
  have HG := Lib.hid (fun (W : World) => (show Calls Tryz.prog 94 #[.int .u64 lo, .int .u64 hi, .int .u64 1] W fun e w' => e = .returned (.int .u64 g) ∧ w' = W from hget W))
  rw [← hbe]
  clear hget hbe
  go_enter Tryz.func75, Tryz.ntmps75
  go_wp2_with (go_at_call 94; (with_reducible refine (HG.out _).mono ?_); rintro e9 w9 ⟨rfl, rfl⟩)
  go_ret
  exact ⟨rfl, Ext.alloc1 _ _⟩

def BdRes (lo hi : Int) (e : Ending) : Prop := ∃ r, e = .returned (.agg #[.int .u64 lo, .int .u64 hi, .map r])

theorem seconds_lit (w : World) : Calls Tryz.prog 51 #[] w fun e w' => BdRes 0 59 e ∧ ∃ y : Ext w, w' = y.now := by
  refine (seconds_any w).mono ?_
  rintro e w' ⟨⟨r, rfl, _⟩, hx⟩
  exact ⟨⟨r, rfl⟩, hx⟩

theorem minutes_lit (w : World) : Calls Tryz.prog 52 #[] w fun e w' => BdRes 0 59 e ∧ ∃ y : Ext w, w' = y.now := by
  refine (minutes_any w).mono ?_
  rintro e w' ⟨⟨r, rfl, _⟩, hx⟩
  exact ⟨⟨r, rfl⟩, hx⟩

theorem hours_lit (w : World) : Calls Tryz.prog 53 #[] w fun e w' => BdRes 0 23 e ∧ ∃ y : Ext w, w' = y.now := by
  refine (hours_any w).mono ?_
  rintro e w' ⟨⟨r, rfl, _⟩, hx⟩
  exact ⟨⟨r, rfl⟩, hx⟩

theorem dom_lit (w : World) : Calls Tryz.prog 54 #[] w fun e w' => BdRes 1 31 e ∧ ∃ y : Ext w, w' = y.now := by
  refine (dom_any w).mono ?_
  rintro e w' ⟨⟨r, rfl, _⟩, hx⟩
  exact ⟨⟨r, rfl⟩, hx⟩

theorem months_lit (w : World) : Calls Tryz.prog 55 #[] w fun e w' => BdRes 1 12 e ∧ ∃ y : Ext w, w' = y.now := by
  refine (months_any w).mono ?_
  rintro e w' ⟨⟨r, rfl, _⟩, hx⟩
  exact ⟨⟨r, rfl⟩, hx⟩

theorem dow_lit (w : World) : Calls Tryz.prog 56 #[] w fun e w' => BdRes 0 6 e ∧ ∃ y : Ext w, w' = y.now := by
  refine (dow_any w).mono ?_
  rintro e w' ⟨⟨r, rfl, _⟩, hx⟩
  exact ⟨⟨r, rfl⟩, hx⟩

def SchedP (f : Nat → Nat) (p : Option Addr) (e : Ending) (w' : World) : Prop := ∃ S, e = .returned (.tuple #[.iface 93 (.pointer (some ⟨S, 0, none⟩)), .nilIface]) ∧ Sch w' S f ∧ w'.cell? ⟨S, 6, none⟩ = some (.pointer p)

set_option maxRecDepth 100000 in
theorem desc_yearly (s : ByteArray) (h : nats s = [64, 121, 101, 97, 114, 108, 121]) : ∃ f : Nat → Nat, ∀ (w : World) (p : Option Addr), Calls Tryz.prog 46 #[.string s, .pointer p] w fun e w' => SchedP f p e w' ∧ ∃ y : Ext w, w' = y.now := by
  obtain ⟨a2, b2, c2⟩ := all_any 0 23 (by decide) (by decide)
  obtain ⟨a3, b3, c3⟩ := all_any 1 31 (by decide) (by decide)
  obtain ⟨a4, b4, c4⟩ := all_any 1 12 (by decide) (by decide)
  obtain ⟨a5, b5, c5⟩ := all_any 0 6 (by decide) (by decide)
  refine ⟨fun i => if i = 0 then 1 else if i = 1 then 1 else if i = 2 then 1 else if i = 3 then 2 else if i = 4 then 2 else a5, fun w p => ?_⟩
  have H2 := Lib.hid (fun (W : World) (r : Option Nat) => (show Calls Tryz.prog 75 #[.agg #[.int .u64 0, .int .u64 23, .map r]] W fun e w' => e = .returned (.int .u64 a2) ∧ ∃ y : Ext W, w' = y.now from c2 W r))
  have H3 := Lib.hid (fun (W : World) (r : Option Nat) => (show Calls Tryz.prog 75 #[.agg #[.int .u64 1, .int .u64 31, .map r]] W fun e w' => e = .returned (.int .u64 a3) ∧ ∃ y : Ext W, w' = y.now from c3 W r))
  have H4 := Lib.hid (fun (W : World) (r : Option Nat) => (show Calls Tryz.prog 75 #[.agg #[.int .u64 1, .int .u64 12, .map r]] W fun e w' => e = .returned (.int .u64 a4) ∧ ∃ y : Ext W, w' = y.now from c4 W r))
  have H5 := Lib.hid (fun (W : World) (r : Option Nat) => (show Calls Tryz.prog 75 #[.agg #[.int .u64 0, .int .u64 6, .map r]] W fun e w' => e = .returned (.int .u64 a5) ∧ ∃ y : Ext W, w' = y.now from c5 W r))
  have hfld : ∀ (a b : Int) (r : Option Nat) (W : World), (Instr.field 109 (.agg #[.int .u64 a, .int .u64 b, .map r]) 0).run Tryz.prog W = .ok (.int .u64 a) W := fun _ _ _ _ => by kernel_rfl
  have HBD := Lib.hid (show a2 < 18446744073709551616 ∧ a3 < 18446744073709551616 ∧ a4 < 18446744073709551616 ∧ a5 < 18446744073709551616 from ⟨b2, b3, b4, b5⟩)
  clear c2 c3 c4 c5 b2 b3 b4 b5
  have k0 : (s.toList == ([64, 121, 101, 97, 114, 108, 121] : List UInt8)) = true := by rw [lit_nats, h]; decide
  clear h
  obtain ⟨z, hz⟩ : ∃ z : Ext w, z = Ext.refl w := ⟨_, rfl⟩
  change Calls Tryz.prog 46 #[.string s, .pointer p] (Ext.refl w).now fun e w' => SchedP _ p e w' ∧ ∃ y : Ext w, w' = y.now
  rw [← hz]
  clear hz
  go_enter Tryz.func46, Tryz.ntmps46
  go_wp2_with (first
    | (go_at_call 51; (with_reducible refine (seconds_lit _).mono ?_); rintro e9 w9 ⟨⟨r9, rfl⟩, y9, rfl⟩; obtain ⟨z, hz⟩ : ∃ z : Ext w, y9.now = z.now := ⟨z.trans y9, rfl⟩; rw [hz]; clear hz)
    | (go_at_call 52; (with_reducible refine (minutes_lit _).mono ?_); rintro e9 w9 ⟨⟨r9, rfl⟩, y9, rfl⟩; obtain ⟨z, hz⟩ : ∃ z : Ext w, y9.now = z.now := ⟨z.trans y9, rfl⟩; rw [hz]; clear hz)
    | (go_at_call 53; (with_reducible refine (hours_lit _).mono ?_); rintro e9 w9 ⟨⟨r9, rfl⟩, y9, rfl⟩; obtain ⟨z, hz⟩ : ∃ z : Ext w, y9.now = z.now := ⟨z.trans y9, rfl⟩; rw [hz]; clear hz)
    | (go_at_call 54; (with_reducible refine (dom_lit _).mono ?_); rintro e9 w9 ⟨⟨r9, rfl⟩, y9, rfl⟩; obtain ⟨z, hz⟩ : ∃ z : Ext w, y9.now = z.now := ⟨z.trans y9, rfl⟩; rw [hz]; clear hz)
    | (go_at_call 55; (with_reducible refine (months_lit _).mono ?_); rintro e9 w9 ⟨⟨r9, rfl⟩, y9, rfl⟩; obtain ⟨z, hz⟩ : ∃ z : Ext w, y9.now = z.now := ⟨z.trans y9, rfl⟩; rw [hz]; clear hz)
    | (go_at_call 56; (with_reducible refine (dow_lit _).mono ?_); rintro e9 w9 ⟨⟨r9, rfl⟩, y9, rfl⟩; obtain ⟨z, hz⟩ : ∃ z : Ext w, y9.now = z.now := ⟨z.trans y9, rfl⟩; rw [hz]; clear hz)
    | (go_at_call 75; (with_reducible refine (H2.out _ _).mono ?_); rintro e9 w9 ⟨rfl, y9, rfl⟩; obtain ⟨z, hz⟩ : ∃ z : Ext w, y9.now = z.now := ⟨z.trans y9, rfl⟩; rw [hz]; clear hz)
    | (go_at_call 75; (with_reducible refine (H3.out _ _).mono ?_); rintro e9 w9 ⟨rfl, y9, rfl⟩; obtain ⟨z, hz⟩ : ∃ z : Ext w, y9.now = z.now := ⟨z.trans y9, rfl⟩; rw [hz]; clear hz)
    | (go_at_call 75; (with_reducible refine (H4.out _ _).mono ?_); rintro e9 w9 ⟨rfl, y9, rfl⟩; obtain ⟨z, hz⟩ : ∃ z : Ext w, y9.now = z.now := ⟨z.trans y9, rfl⟩; rw [hz]; clear hz)
    | (go_at_call 75; (with_reducible refine (H5.out _ _).mono ?_); rintro e9 w9 ⟨rfl, y9, rfl⟩; obtain ⟨z, hz⟩ : ∃ z : Ext w, y9.now = z.now := ⟨z.trans y9, rfl⟩; rw [hz]; clear hz))
  go_ret2
  refine ⟨⟨z.now.heap.size, rfl, ⟨?_, ?_, ?_, ?_, ?_, ?_, by simp, fun i hi => ?_⟩, by simp [go_sem]⟩, z.trans (Ext.one _ _), rfl⟩
  iterate 6 (· simp [go_sem])
  · have := HBD.out
    (try dsimp only)
    repeat (split; · omega)
    omega

set_option maxRecDepth 100000 in
theorem desc_annually (s : ByteArray) (h : nats s = [64, 97, 110, 110, 117, 97, 108, 108, 121]) : ∃ f : Nat → Nat, ∀ (w : World) (p : Option Addr), Calls Tryz.prog 46 #[.string s, .pointer p] w fun e w' => SchedP f p e w' ∧ ∃ y : Ext w, w' = y.now := by
  obtain ⟨a2, b2, c2⟩ := all_any 0 23 (by decide) (by decide)
  obtain ⟨a3, b3, c3⟩ := all_any 1 31 (by decide) (by decide)
  obtain ⟨a4, b4, c4⟩ := all_any 1 12 (by decide) (by decide)
  obtain ⟨a5, b5, c5⟩ := all_any 0 6 (by decide) (by decide)
  refine ⟨fun i => if i = 0 then 1 else if i = 1 then 1 else if i = 2 then 1 else if i = 3 then 2 else if i = 4 then 2 else a5, fun w p => ?_⟩
  have H2 := Lib.hid (fun (W : World) (r : Option Nat) => (show Calls Tryz.prog 75 #[.agg #[.int .u64 0, .int .u64 23, .map r]] W fun e w' => e = .returned (.int .u64 a2) ∧ ∃ y : Ext W, w' = y.now from c2 W r))
  have H3 := Lib.hid (fun (W : World) (r : Option Nat) => (show Calls Tryz.prog 75 #[.agg #[.int .u64 1, .int .u64 31, .map r]] W fun e w' => e = .returned (.int .u64 a3) ∧ ∃ y : Ext W, w' = y.now from c3 W r))
  have H4 := Lib.hid (fun (W : World) (r : Option Nat) => (show Calls Tryz.prog 75 #[.agg #[.int .u64 1, .int .u64 12, .map r]] W fun e w' => e = .returned (.int .u64 a4) ∧ ∃ y : Ext W, w' = y.now from c4 W r))
  have H5 := Lib.hid (fun (W : World) (r : Option Nat) => (show Calls Tryz.prog 75 #[.agg #[.int .u64 0, .int .u64 6, .map r]] W fun e w' => e = .returned (.int .u64 a5) ∧ ∃ y : Ext W, w' = y.now from c5 W r))
  have hfld : ∀ (a b : Int) (r : Option Nat) (W : World), (Instr.field 109 (.agg #[.int .u64 a, .int .u64 b, .map r]) 0).run Tryz.prog W = .ok (.int .u64 a) W := fun _ _ _ _ => by kernel_rfl
  have HBD := Lib.hid (show a2 < 18446744073709551616 ∧ a3 < 18446744073709551616 ∧ a4 < 18446744073709551616 ∧ a5 < 18446744073709551616 from ⟨b2, b3, b4, b5⟩)
  clear c2 c3 c4 c5 b2 b3 b4 b5
  have k0 : (s.toList == ([64, 121, 101, 97, 114, 108, 121] : List UInt8)) = false := by rw [lit_nats, h]; decide
  have k1 : (s.toList == ([64, 97, 110, 110, 117, 97, 108, 108, 121] : List UInt8)) = true := by rw [lit_nats, h]; decide
  clear h
  obtain ⟨z, hz⟩ : ∃ z : Ext w, z = Ext.refl w := ⟨_, rfl⟩
  change Calls Tryz.prog 46 #[.string s, .pointer p] (Ext.refl w).now fun e w' => SchedP _ p e w' ∧ ∃ y : Ext w, w' = y.now
  rw [← hz]
  clear hz
  go_enter Tryz.func46, Tryz.ntmps46
  go_wp2_with (first
    | (go_at_call 51; (with_reducible refine (seconds_lit _).mono ?_); rintro e9 w9 ⟨⟨r9, rfl⟩, y9, rfl⟩; obtain ⟨z, hz⟩ : ∃ z : Ext w, y9.now = z.now := ⟨z.trans y9, rfl⟩; rw [hz]; clear hz)
    | (go_at_call 52; (with_reducible refine (minutes_lit _).mono ?_); rintro e9 w9 ⟨⟨r9, rfl⟩, y9, rfl⟩; obtain ⟨z, hz⟩ : ∃ z : Ext w, y9.now = z.now := ⟨z.trans y9, rfl⟩; rw [hz]; clear hz)
    | (go_at_call 53; (with_reducible refine (hours_lit _).mono ?_); rintro e9 w9 ⟨⟨r9, rfl⟩, y9, rfl⟩; obtain ⟨z, hz⟩ : ∃ z : Ext w, y9.now = z.now := ⟨z.trans y9, rfl⟩; rw [hz]; clear hz)
    | (go_at_call 54; (with_reducible refine (dom_lit _).mono ?_); rintro e9 w9 ⟨⟨r9, rfl⟩, y9, rfl⟩; obtain ⟨z, hz⟩ : ∃ z : Ext w, y9.now = z.now := ⟨z.trans y9, rfl⟩; rw [hz]; clear hz)
    | (go_at_call 55; (with_reducible refine (months_lit _).mono ?_); rintro e9 w9 ⟨⟨r9, rfl⟩, y9, rfl⟩; obtain ⟨z, hz⟩ : ∃ z : Ext w, y9.now = z.now := ⟨z.trans y9, rfl⟩; rw [hz]; clear hz)
    | (go_at_call 56; (with_reducible refine (dow_lit _).mono ?_); rintro e9 w9 ⟨⟨r9, rfl⟩, y9, rfl⟩; obtain ⟨z, hz⟩ : ∃ z : Ext w, y9.now = z.now := ⟨z.trans y9, rfl⟩; rw [hz]; clear hz)
    | (go_at_call 75; (with_reducible refine (H2.out _ _).mono ?_); rintro e9 w9 ⟨rfl, y9, rfl⟩; obtain ⟨z, hz⟩ : ∃ z : Ext w, y9.now = z.now := ⟨z.trans y9, rfl⟩; rw [hz]; clear hz)
    | (go_at_call 75; (with_reducible refine (H3.out _ _).mono ?_); rintro e9 w9 ⟨rfl, y9, rfl⟩; obtain ⟨z, hz⟩ : ∃ z : Ext w, y9.now = z.now := ⟨z.trans y9, rfl⟩; rw [hz]; clear hz)
    | (go_at_call 75; (with_reducible refine (H4.out _ _).mono ?_); rintro e9 w9 ⟨rfl, y9, rfl⟩; obtain ⟨z, hz⟩ : ∃ z : Ext w, y9.now = z.now := ⟨z.trans y9, rfl⟩; rw [hz]; clear hz)
    | (go_at_call 75; (with_reducible refine (H5.out _ _).mono ?_); rintro e9 w9 ⟨rfl, y9, rfl⟩; obtain ⟨z, hz⟩ : ∃ z : Ext w, y9.now = z.now := ⟨z.trans y9, rfl⟩; rw [hz]; clear hz))
  go_ret2
  refine ⟨⟨z.now.heap.size, rfl, ⟨?_, ?_, ?_, ?_, ?_, ?_, by simp, fun i hi => ?_⟩, by simp [go_sem]⟩, z.trans (Ext.one _ _), rfl⟩
  iterate 6 (· simp [go_sem])
  · have := HBD.out
    (try dsimp only)
    repeat (split; · omega)
    omega

set_option maxRecDepth 100000 in
theorem desc_monthly (s : ByteArray) (h : nats s = [64, 109, 111, 110, 116, 104, 108, 121]) : ∃ f : Nat → Nat, ∀ (w : World) (p : Option Addr), Calls Tryz.prog 46 #[.string s, .pointer p] w fun e w' => SchedP f p e w' ∧ ∃ y : Ext w, w' = y.now := by
  obtain ⟨a2, b2, c2⟩ := all_any 0 23 (by decide) (by decide)
  obtain ⟨a3, b3, c3⟩ := all_any 1 31 (by decide) (by decide)
  obtain ⟨a4, b4, c4⟩ := all_any 1 12 (by decide) (by decide)
  obtain ⟨a5, b5, c5⟩ := all_any 0 6 (by decide) (by decide)
  refine ⟨fun i => if i = 0 then 1 else if i = 1 then 1 else if i = 2 then 1 else if i = 3 then 2 else if i = 4 then a4 else a5, fun w p => ?_⟩
  have H2 := Lib.hid (fun (W : World) (r : Option Nat) => (show Calls Tryz.prog 75 #[.agg #[.int .u64 0, .int .u64 23, .map r]] W fun e w' => e = .returned (.int .u64 a2) ∧ ∃ y : Ext W, w' = y.now from c2 W r))
  have H3 := Lib.hid (fun (W : World) (r : Option Nat) => (show Calls Tryz.prog 75 #[.agg #[.int .u64 1, .int .u64 31, .map r]] W fun e w' => e = .returned (.int .u64 a3) ∧ ∃ y : Ext W, w' = y.now from c3 W r))
  have H4 := Lib.hid (fun (W : World) (r : Option Nat) => (show Calls Tryz.prog 75 #[.agg #[.int .u64 1, .int .u64 12, .map r]] W fun e w' => e = .returned (.int .u64 a4) ∧ ∃ y : Ext W, w' = y.now from c4 W r))
  have H5 := Lib.hid (fun (W : World) (r : Option Nat) => (show Calls Tryz.prog 75 #[.agg #[.int .u64 0, .int .u64 6, .map r]] W fun e w' => e = .returned (.int .u64 a5) ∧ ∃ y : Ext W, w' = y.now from c5 W r))
  have hfld : ∀ (a b : Int) (r : Option Nat) (W : World), (Instr.field 109 (.agg #[.int .u64 a, .int .u64 b, .map r]) 0).run Tryz.prog W = .ok (.int .u64 a) W := fun _ _ _ _ => by kernel_rfl
  have HBD := Lib.hid (show a2 < 18446744073709551616 ∧ a3 < 18446744073709551616 ∧ a4 < 18446744073709551616 ∧ a5 < 18446744073709551616 from ⟨b2, b3, b4, b5⟩)
  clear c2 c3 c4 c5 b2 b3 b4 b5
  have k0 : (s.toList == ([64, 121, 101, 97, 114, 108, 121] : List UInt8)) = false := by rw [lit_nats, h]; decide
  have k1 : (s.toList == ([64, 97, 110, 110, 117, 97, 108, 108, 121] : List UInt8)) = false := by rw [lit_nats, h]; decide
  have k2 : (s.toList == ([64, 109, 111, 110, 116, 104, 108, 121] : List UInt8)) = true := by rw [lit_nats, h]; decide
  clear h
  obtain ⟨z, hz⟩ : ∃ z : Ext w, z = Ext.refl w := ⟨_, rfl⟩
  change Calls Tryz.prog 46 #[.string s, .pointer p] (Ext.refl w).now fun e w' => SchedP _ p e w' ∧ ∃ y : Ext w, w' = y.now
  rw [← hz]
  clear hz
  go_enter Tryz.func46, Tryz.ntmps46
  go_wp2_with (first
    | (go_at_call 51; (with_reducible refine (seconds_lit _).mono ?_); rintro e9 w9 ⟨⟨r9, rfl⟩, y9, rfl⟩; obtain ⟨z, hz⟩ : ∃ z : Ext w, y9.now = z.now := ⟨z.trans y9, rfl⟩; rw [hz]; clear hz)
    | (go_at_call 52; (with_reducible refine (minutes_lit _).mono ?_); rintro e9 w9 ⟨⟨r9, rfl⟩, y9, rfl⟩; obtain ⟨z, hz⟩ : ∃ z : Ext w, y9.now = z.now := ⟨z.trans y9, rfl⟩; rw [hz]; clear hz)
    | (go_at_call 53; (with_reducible refine (hours_lit _).mono ?_); rintro e9 w9 ⟨⟨r9, rfl⟩, y9, rfl⟩; obtain ⟨z, hz⟩ : ∃ z : Ext w, y9.now = z.now := ⟨z.trans y9, rfl⟩; rw [hz]; clear hz)
    | (go_at_call 54; (with_reducible refine (dom_lit _).mono ?_); rintro e9 w9 ⟨⟨r9, rfl⟩, y9, rfl⟩; obtain ⟨z, hz⟩ : ∃ z : Ext w, y9.now = z.now := ⟨z.trans y9, rfl⟩; rw [hz]; clear hz)
    | (go_at_call 55; (with_reducible refine (months_lit _).mono ?_); rintro e9 w9 ⟨⟨r9, rfl⟩, y9, rfl⟩; obtain ⟨z, hz⟩ : ∃ z : Ext w, y9.now = z.now := ⟨z.trans y9, rfl⟩; rw [hz]; clear hz)
    | (go_at_call 56; (with_reducible refine (dow_lit _).mono ?_); rintro e9 w9 ⟨⟨r9, rfl⟩, y9, rfl⟩; obtain ⟨z, hz⟩ : ∃ z : Ext w, y9.now = z.now := ⟨z.trans y9, rfl⟩; rw [hz]; clear hz)
    | (go_at_call 75; (with_reducible refine (H2.out _ _).mono ?_); rintro e9 w9 ⟨rfl, y9, rfl⟩; obtain ⟨z, hz⟩ : ∃ z : Ext w, y9.now = z.now := ⟨z.trans y9, rfl⟩; rw [hz]; clear hz)
    | (go_at_call 75; (with_reducible refine (H3.out _ _).mono ?_); rintro e9 w9 ⟨rfl, y9, rfl⟩; obtain ⟨z, hz⟩ : ∃ z : Ext w, y9.now = z.now := ⟨z.trans y9, rfl⟩; rw [hz]; clear hz)
    | (go_at_call 75; (with_reducible refine (H4.out _ _).mono ?_); rintro e9 w9 ⟨rfl, y9, rfl⟩; obtain ⟨z, hz⟩ : ∃ z : Ext w, y9.now = z.now := ⟨z.trans y9, rfl⟩; rw [hz]; clear hz)
    | (go_at_call 75; (with_reducible refine (H5.out _ _).mono ?_); rintro e9 w9 ⟨rfl, y9, rfl⟩; obtain ⟨z, hz⟩ : ∃ z : Ext w, y9.now = z.now := ⟨z.trans y9, rfl⟩; rw [hz]; clear hz))
  go_ret2
  refine ⟨⟨z.now.heap.size, rfl, ⟨?_, ?_, ?_, ?_, ?_, ?_, by simp, fun i hi => ?_⟩, by simp [go_sem]⟩, z.trans (Ext.one _ _), rfl⟩
  iterate 6 (· simp [go_sem])
  · have := HBD.out
    (try dsimp only)
    repeat (split; · omega)
    omega

set_option maxRecDepth 100000 in
theorem desc_weekly (s : ByteArray) (h : nats s = [64, 119, 101, 101, 107, 108, 121]) : ∃ f : Nat → Nat, ∀ (w : World) (p : Option Addr), Calls Tryz.prog 46 #[.string s, .pointer p] w fun e w' => SchedP f p e w' ∧ ∃ y : Ext w, w' = y.now := by
  obtain ⟨a2, b2, c2⟩ := all_any 0 23 (by decide) (by decide)
  obtain ⟨a3, b3, c3⟩ := all_any 1 31 (by decide) (by decide)
  obtain ⟨a4, b4, c4⟩ := all_any 1 12 (by decide) (by decide)
  obtain ⟨a5, b5, c5⟩ := all_any 0 6 (by decide) (by decide)
  refine ⟨fun i => if i = 0 then 1 else if i = 1 then 1 else if i = 2 then 1 else if i = 3 then a3 else if i = 4 then a4 else 1, fun w p => ?_⟩
  have H2 := Lib.hid (fun (W : World) (r : Option Nat) => (show Calls Tryz.prog 75 #[.agg #[.int .u64 0, .int .u64 23, .map r]] W fun e w' => e = .returned (.int .u64 a2) ∧ ∃ y : Ext W, w' = y.now from c2 W r))
  have H3 := Lib.hid (fun (W : World) (r : Option Nat) => (show Calls Tryz.prog 75 #[.agg #[.int .u64 1, .int .u64 31, .map r]] W fun e w' => e = .returned (.int .u64 a3) ∧ ∃ y : Ext W, w' = y.now from c3 W r))
  have H4 := Lib.hid (fun (W : World) (r : Option Nat) => (show Calls Tryz.prog 75 #[.agg #[.int .u64 1, .int .u64 12, .map r]] W fun e w' => e = .returned (.int .u64 a4) ∧ ∃ y : Ext W, w' = y.now from c4 W r))
  have H5 := Lib.hid (fun (W : World) (r : Option Nat) => (show Calls Tryz.prog 75 #[.agg #[.int .u64 0, .int .u64 6, .map r]] W fun e w' => e = .returned (.int .u64 a5) ∧ ∃ y : Ext W, w' = y.now from c5 W r))
  have hfld : ∀ (a b : Int) (r : Option Nat) (W : World), (Instr.field 109 (.agg #[.int .u64 a, .int .u64 b, .map r]) 0).run Tryz.prog W = .ok (.int .u64 a) W := fun _ _ _ _ => by kernel_rfl
  have HBD := Lib.hid (show a2 < 18446744073709551616 ∧ a3 < 18446744073709551616 ∧ a4 < 18446744073709551616 ∧ a5 < 18446744073709551616 from ⟨b2, b3, b4, b5⟩)
  clear c2 c3 c4 c5 b2 b3 b4 b5
  have k0 : (s.toList == ([64, 121, 101, 97, 114, 108, 121] : List UInt8)) = false := by rw [lit_nats, h]; decide
  have k1 : (s.toList == ([64, 97, 110, 110, 117, 97, 108, 108, 121] : List UInt8)) = false := by rw [lit_nats, h]; decide
  have k2 : (s.toList == ([64, 109, 111, 110, 116, 104, 108, 121] : List UInt8)) = false := by rw [lit_nats, h]; decide
  have k3 : (s.toList == ([64, 119, 101, 101, 107, 108, 121] : List UInt8)) = true := by rw [lit_nats, h]; decide
  clear h
  obtain ⟨z, hz⟩ : ∃ z : Ext w, z = Ext.refl w := ⟨_, rfl⟩
  change Calls Tryz.prog 46 #[.string s, .pointer p] (Ext.refl w).now fun e w' => SchedP _ p e w' ∧ ∃ y : Ext w, w' = y.now
  rw [← hz]
  clear hz
  go_enter Tryz.func46, Tryz.ntmps46
  go_wp2_with (first
    | (go_at_call 51; (with_reducible refine (seconds_lit _).mono ?_); rintro e9 w9 ⟨⟨r9, rfl⟩, y9, rfl⟩; obtain ⟨z, hz⟩ : ∃ z : Ext w, y9.now = z.now := ⟨z.trans y9, rfl⟩; rw [hz]; clear hz)
    | (go_at_call 52; (with_reducible refine (minutes_lit _).mono ?_); rintro e9 w9 ⟨⟨r9, rfl⟩, y9, rfl⟩; obtain ⟨z, hz⟩ : ∃ z : Ext w, y9.now = z.now := ⟨z.trans y9, rfl⟩; rw [hz]; clear hz)
    | (go_at_call 53; (with_reducible refine (hours_lit _).mono ?_); rintro e9 w9 ⟨⟨r9, rfl⟩, y9, rfl⟩; obtain ⟨z, hz⟩ : ∃ z : Ext w, y9.now = z.now := ⟨z.trans y9, rfl⟩; rw [hz]; clear hz)
    | (go_at_call 54; (with_reducible refine (dom_lit _).mono ?_); rintro e9 w9 ⟨⟨r9, rfl⟩, y9, rfl⟩; obtain ⟨z, hz⟩ : ∃ z : Ext w, y9.now = z.now := ⟨z.trans y9, rfl⟩; rw [hz]; clear hz)
    | (go_at_call 55; (with_reducible refine (months_lit _).mono ?_); rintro e9 w9 ⟨⟨r9, rfl⟩, y9, rfl⟩; obtain ⟨z, hz⟩ : ∃ z : Ext w, y9.now = z.now := ⟨z.trans y9, rfl⟩; rw [hz]; clear hz)
    | (go_at_call 56; (with_reducible refine (dow_lit _).mono ?_); rintro e9 w9 ⟨⟨r9, rfl⟩, y9, rfl⟩; obtain ⟨z, hz⟩ : ∃ z : Ext w, y9.now = z.now := ⟨z.trans y9, rfl⟩; rw [hz]; clear hz)
    | (go_at_call 75; (with_reducible refine (H2.out _ _).mono ?_); rintro e9 w9 ⟨rfl, y9, rfl⟩; obtain ⟨z, hz⟩ : ∃ z : Ext w, y9.now = z.now := ⟨z.trans y9, rfl⟩; rw [hz]; clear hz)
    | (go_at_call 75; (with_reducible refine (H3.out _ _).mono ?_); rintro e9 w9 ⟨rfl, y9, rfl⟩; obtain ⟨z, hz⟩ : ∃ z : Ext w, y9.now = z.now := ⟨z.trans y9, rfl⟩; rw [hz]; clear hz)
    | (go_at_call 75; (with_reducible refine (H4.out _ _).mono ?_); rintro e9 w9 ⟨rfl, y9, rfl⟩; obtain ⟨z, hz⟩ : ∃ z : Ext w, y9.now = z.now := ⟨z.trans y9, rfl⟩; rw [hz]; clear hz)
    | (go_at_call 75; (with_reducible refine (H5.out _ _).mono ?_); rintro e9 w9 ⟨rfl, y9, rfl⟩; obtain ⟨z, hz⟩ : ∃ z : Ext w, y9.now = z.now := ⟨z.trans y9, rfl⟩; rw [hz]; clear hz))
  go_ret2
  refine ⟨⟨z.now.heap.size, rfl, ⟨?_, ?_, ?_, ?_, ?_, ?_, by simp, fun i hi => ?_⟩, by simp [go_sem]⟩, z.trans (Ext.one _ _), rfl⟩
  iterate 6 (· simp [go_sem])
  · have := HBD.out
    (try dsimp only)
    repeat (split; · omega)
    omega

set_option maxRecDepth 100000 in
theorem desc_daily (s : ByteArray) (h : nats s = [64, 100, 97, 105, 108, 121]) : ∃ f : Nat → Nat, ∀ (w : World) (p : Option Addr), Calls Tryz.prog 46 #[.string s, .pointer p] w fun e w' => SchedP f p e w' ∧ ∃ y : Ext w, w' = y.now := by
  obtain ⟨a2, b2, c2⟩ := all_any 0 23 (by decide) (by decide)
  obtain ⟨a3, b3, c3⟩ := all_any 1 31 (by decide) (by decide)
  obtain ⟨a4, b4, c4⟩ := all_any 1 12 (by decide) (by decide)
  obtain ⟨a5, b5, c5⟩ := all_any 0 6 (by decide) (by decide)
  refine ⟨fun i => if i = 0 then 1 else if i = 1 then 1 else if i = 2 then 1 else if i = 3 then a3 else if i = 4 then a4 else a5, fun w p => ?_⟩
  have H2 := Lib.hid (fun (W : World) (r : Option Nat) => (show Calls Tryz.prog 75 #[.agg #[.int .u64 0, .int .u64 23, .map r]] W fun e w' => e = .returned (.int .u64 a2) ∧ ∃ y : Ext W, w' = y.now from c2 W r))
  have H3 := Lib.hid (fun (W : World) (r : Option Nat) => (show Calls Tryz.prog 75 #[.agg #[.int .u64 1, .int .u64 31, .map r]] W fun e w' => e = .returned (.int .u64 a3) ∧ ∃ y : Ext W, w' = y.now from c3 W r))
  have H4 := Lib.hid (fun (W : World) (r : Option Nat) => (show Calls Tryz.prog 75 #[.agg #[.int .u64 1, .int .u64 12, .map r]] W fun e w' => e = .returned (.int .u64 a4) ∧ ∃ y : Ext W, w' = y.now from c4 W r))
  have H5 := Lib.hid (fun (W : World) (r : Option Nat) => (show Calls Tryz.prog 75 #[.agg #[.int .u64 0, .int .u64 6, .map r]] W fun e w' => e = .returned (.int .u64 a5) ∧ ∃ y : Ext W, w' = y.now from c5 W r))
  have hfld : ∀ (a b : Int) (r : Option Nat) (W : World), (Instr.field 109 (.agg #[.int .u64 a, .int .u64 b, .map r]) 0).run Tryz.prog W = .ok (.int .u64 a) W := fun _ _ _ _ => by kernel_rfl
  have HBD := Lib.hid (show a2 < 18446744073709551616 ∧ a3 < 18446744073709551616 ∧ a4 < 18446744073709551616 ∧ a5 < 18446744073709551616 from ⟨b2, b3, b4, b5⟩)
  clear c2 c3 c4 c5 b2 b3 b4 b5
  have k0 : (s.toList == ([64, 121, 101, 97, 114, 108, 121] : List UInt8)) = false := by rw [lit_nats, h]; decide
  have k1 : (s.toList == ([64, 97, 110, 110, 117, 97, 108, 108, 121] : List UInt8)) = false := by rw [lit_nats, h]; decide
  have k2 : (s.toList == ([64, 109, 111, 110, 116, 104, 108, 121] : List UInt8)) = false := by rw [lit_nats, h]; decide
  have k3 : (s.toList == ([64, 119, 101, 101, 107, 108, 121] : List UInt8)) = false := by rw [lit_nats, h]; decide
  have k4 : (s.toList == ([64, 100, 97, 105, 108, 121] : List UInt8)) = true := by rw [lit_nats, h]; decide
  clear h
  obtain ⟨z, hz⟩ : ∃ z : Ext w, z = Ext.refl w := ⟨_, rfl⟩
  change Calls Tryz.prog 46 #[.string s, .pointer p] (Ext.refl w).now fun e w' => SchedP _ p e w' ∧ ∃ y : Ext w, w' = y.now
  rw [← hz]
  clear hz
  go_enter Tryz.func46, Tryz.ntmps46
  go_wp2_with (first
    | (go_at_call 51; (with_reducible refine (seconds_lit _).mono ?_); rintro e9 w9 ⟨⟨r9, rfl⟩, y9, rfl⟩; obtain ⟨z, hz⟩ : ∃ z : Ext w, y9.now = z.now := ⟨z.trans y9, rfl⟩; rw [hz]; clear hz)
    | (go_at_call 52; (with_reducible refine (minutes_lit _).mono ?_); rintro e9 w9 ⟨⟨r9, rfl⟩, y9, rfl⟩; obtain ⟨z, hz⟩ : ∃ z : Ext w, y9.now = z.now := ⟨z.trans y9, rfl⟩; rw [hz]; clear hz)
    | (go_at_call 53; (with_reducible refine (hours_lit _).mono ?_); rintro e9 w9 ⟨⟨r9, rfl⟩, y9, rfl⟩; obtain ⟨z, hz⟩ : ∃ z : Ext w, y9.now = z.now := ⟨z.trans y9, rfl⟩; rw [hz]; clear hz)
    | (go_at_call 54; (with_reducible refine (dom_lit _).mono ?_); rintro e9 w9 ⟨⟨r9, rfl⟩, y9, rfl⟩; obtain ⟨z, hz⟩ : ∃ z : Ext w, y9.now = z.now := ⟨z.trans y9, rfl⟩; rw [hz]; clear hz)
    | (go_at_call 55; (with_reducible refine (months_lit _).mono ?_); rintro e9 w9 ⟨⟨r9, rfl⟩, y9, rfl⟩; obtain ⟨z, hz⟩ : ∃ z : Ext w, y9.now = z.now := ⟨z.trans y9, rfl⟩; rw [hz]; clear hz)
    | (go_at_call 56; (with_reducible refine (dow_lit _).mono ?_); rintro e9 w9 ⟨⟨r9, rfl⟩, y9, rfl⟩; obtain ⟨z, hz⟩ : ∃ z : Ext w, y9.now = z.now := ⟨z.trans y9, rfl⟩; rw [hz]; clear hz)
    | (go_at_call 75; (with_reducible refine (H2.out _ _).mono ?_); rintro e9 w9 ⟨rfl, y9, rfl⟩; obtain ⟨z, hz⟩ : ∃ z : Ext w, y9.now = z.now := ⟨z.trans y9, rfl⟩; rw [hz]; clear hz)
    | (go_at_call 75; (with_reducible refine (H3.out _ _).mono ?_); rintro e9 w9 ⟨rfl, y9, rfl⟩; obtain ⟨z, hz⟩ : ∃ z : Ext w, y9.now = z.now := ⟨z.trans y9, rfl⟩; rw [hz]; clear hz)
    | (go_at_call 75; (with_reducible refine (H4.out _ _).mono ?_); rintro e9 w9 ⟨rfl, y9, rfl⟩; obtain ⟨z, hz⟩ : ∃ z : Ext w, y9.now = z.now := ⟨z.trans y9, rfl⟩; rw [hz]; clear hz)
    | (go_at_call 75; (with_reducible refine (H5.out _ _).mono ?_); rintro e9 w9 ⟨rfl, y9, rfl⟩; obtain ⟨z, hz⟩ : ∃ z : Ext w, y9.now = z.now := ⟨z.trans y9, rfl⟩; rw [hz]; clear hz))
  go_ret2
  refine ⟨⟨z.now.heap.size, rfl, ⟨?_, ?_, ?_, ?_, ?_, ?_, by simp, fun i hi => ?_⟩, by simp [go_sem]⟩, z.trans (Ext.one _ _), rfl⟩
  iterate 6 (· simp [go_sem])
  · have := HBD.out
    (try dsimp only)
    repeat (split; · omega)
    omega

set_option maxRecDepth 100000 in
theorem desc_midnight (s : ByteArray) (h : nats s = [64, 109, 105, 100, 110, 105, 103, 104, 116]) : ∃ f : Nat → Nat, ∀ (w : World) (p : Option Addr), Calls Tryz.prog 46 #[.string s, .pointer p] w fun e w' => SchedP f p e w' ∧ ∃ y : Ext w, w' = y.now := by
  obtain ⟨a2, b2, c2⟩ := all_any 0 23 (by decide) (by decide)
  obtain ⟨a3, b3, c3⟩ := all_any 1 31 (by decide) (by decide)
  obtain ⟨a4, b4, c4⟩ := all_any 1 12 (by decide) (by decide)
  obtain ⟨a5, b5, c5⟩ := all_any 0 6 (by decide) (by decide)
  refine ⟨fun i => if i = 0 then 1 else if i = 1 then 1 else if i = 2 then 1 else if i = 3 then a3 else if i = 4 then a4 else a5, fun w p => ?_⟩
  have H2 := Lib.hid (fun (W : World) (r : Option Nat) => (show Calls Tryz.prog 75 #[.agg #[.int .u64 0, .int .u64 23, .map r]] W fun e w' => e = .returned (.int .u64 a2) ∧ ∃ y : Ext W, w' = y.now from c2 W r))
  have H3 := Lib.hid (fun (W : World) (r : Option Nat) => (show Calls Tryz.prog 75 #[.agg #[.int .u64 1, .int .u64 31, .map r]] W fun e w' => e = .returned (.int .u64 a3) ∧ ∃ y : Ext W, w' = y.now from c3 W r))
  have H4 := Lib.hid (fun (W : World) (r : Option Nat) => (show Calls Tryz.prog 75 #[.agg #[.int .u64 1, .int .u64 12, .map r]] W fun e w' => e = .returned (.int .u64 a4) ∧ ∃ y : Ext W, w' = y.now from c4 W r))
  have H5 := Lib.hid (fun (W : World) (r : Option Nat) => (show Calls Tryz.prog 75 #[.agg #[.int .u64 0, .int .u64 6, .map r]] W fun e w' => e = .returned (.int .u64 a5) ∧ ∃ y : Ext W, w' = y.now from c5 W r))
  have hfld : ∀ (a b : Int) (r : Option Nat) (W : World), (Instr.field 109 (.agg #[.int .u64 a, .int .u64 b, .map r]) 0).run Tryz.prog W = .ok (.int .u64 a) W := fun _ _ _ _ => by kernel_rfl
  have HBD := Lib.hid (show a2 < 18446744073709551616 ∧ a3 < 18446744073709551616 ∧ a4 < 18446744073709551616 ∧ a5 < 18446744073709551616 from ⟨b2, b3, b4, b5⟩)
  clear c2 c3 c4 c5 b2 b3 b4 b5
  have k0 : (s.toList == ([64, 121, 101, 97, 114, 108, 121] : List UInt8)) = false := by rw [lit_nats, h]; decide
  have k1 : (s.toList == ([64, 97, 110, 110, 117, 97, 108, 108, 121] : List UInt8)) = false := by rw [lit_nats, h]; decide
  have k2 : (s.toList == ([64, 109, 111, 110, 116, 104, 108, 121] : List UInt8)) = false := by rw [lit_nats, h]; decide
  have k3 : (s.toList == ([64, 119, 101, 101, 107, 108, 121] : List UInt8)) = false := by rw [lit_nats, h]; decide
  have k4 : (s.toList == ([64, 100, 97, 105, 108, 121] : List UInt8)) = false := by rw [lit_nats, h]; decide
  have k5 : (s.toList == ([64, 109, 105, 100, 110, 105, 103, 104, 116] : List UInt8)) = true := by rw [lit_nats, h]; decide
  clear h
  obtain ⟨z, hz⟩ : ∃ z : Ext w, z = Ext.refl w := ⟨_, rfl⟩
  change Calls Tryz.prog 46 #[.string s, .pointer p] (Ext.refl w).now fun e w' => SchedP _ p e w' ∧ ∃ y : Ext w, w' = y.now
  rw [← hz]
  clear hz
  go_enter Tryz.func46, Tryz.ntmps46
  go_wp2_with (first
    | (go_at_call 51; (with_reducible refine (seconds_lit _).mono ?_); rintro e9 w9 ⟨⟨r9, rfl⟩, y9, rfl⟩; obtain ⟨z, hz⟩ : ∃ z : Ext w, y9.now = z.now := ⟨z.trans y9, rfl⟩; rw [hz]; clear hz)
    | (go_at_call 52; (with_reducible refine (minutes_lit _).mono ?_); rintro e9 w9 ⟨⟨r9, rfl⟩, y9, rfl⟩; obtain ⟨z, hz⟩ : ∃ z : Ext w, y9.now = z.now := ⟨z.trans y9, rfl⟩; rw [hz]; clear hz)
    | (go_at_call 53; (with_reducible refine (hours_lit _).mono ?_); rintro e9 w9 ⟨⟨r9, rfl⟩, y9, rfl⟩; obtain ⟨z, hz⟩ : ∃ z : Ext w, y9.now = z.now := ⟨z.trans y9, rfl⟩; rw [hz]; clear hz)
    | (go_at_call 54; (with_reducible refine (dom_lit _).mono ?_); rintro e9 w9 ⟨⟨r9, rfl⟩, y9, rfl⟩; obtain ⟨z, hz⟩ : ∃ z : Ext w, y9.now = z.now := ⟨z.trans y9, rfl⟩; rw [hz]; clear hz)
    | (go_at_call 55; (with_reducible refine (months_lit _).mono ?_); rintro e9 w9 ⟨⟨r9, rfl⟩, y9, rfl⟩; obtain ⟨z, hz⟩ : ∃ z : Ext w, y9.now = z.now := ⟨z.trans y9, rfl⟩; rw [hz]; clear hz)
    | (go_at_call 56; (with_reducible refine (dow_lit _).mono ?_); rintro e9 w9 ⟨⟨r9, rfl⟩, y9, rfl⟩; obtain ⟨z, hz⟩ : ∃ z : Ext w, y9.now = z.now := ⟨z.trans y9, rfl⟩; rw [hz]; clear hz)
    | (go_at_call 75; (with_reducible refine (H2.out _ _).mono ?_); rintro e9 w9 ⟨rfl, y9, rfl⟩; obtain ⟨z, hz⟩ : ∃ z : Ext w, y9.now = z.now := ⟨z.trans y9, rfl⟩; rw [hz]; clear hz)
    | (go_at_call 75; (with_reducible refine (H3.out _ _).mono ?_); rintro e9 w9 ⟨rfl, y9, rfl⟩; obtain ⟨z, hz⟩ : ∃ z : Ext w, y9.now = z.now := ⟨z.trans y9, rfl⟩; rw [hz]; clear hz)
    | (go_at_call 75; (with_reducible refine (H4.out _ _).mono ?_); rintro e9 w9 ⟨rfl, y9, rfl⟩; obtain ⟨z, hz⟩ : ∃ z : Ext w, y9.now = z.now := ⟨z.trans y9, rfl⟩; rw [hz]; clear hz)
    | (go_at_call 75; (with_reducible refine (H5.out _ _).mono ?_); rintro e9 w9 ⟨rfl, y9, rfl⟩; obtain ⟨z, hz⟩ : ∃ z : Ext w, y9.now = z.now := ⟨z.trans y9, rfl⟩; rw [hz]; clear hz))
  go_ret2
  refine ⟨⟨z.now.heap.size, rfl, ⟨?_, ?_, ?_, ?_, ?_, ?_, by simp, fun i hi => ?_⟩, by simp [go_sem]⟩, z.trans (Ext.one _ _), rfl⟩
  iterate 6 (· simp [go_sem])
  · have := HBD.out
    (try dsimp only)
    repeat (split; · omega)
    omega

set_option maxRecDepth 100000 in
theorem desc_hourly (s : ByteArray) (h : nats s = [64, 104, 111, 117, 114, 108, 121]) : ∃ f : Nat → Nat, ∀ (w : World) (p : Option Addr), Calls Tryz.prog 46 #[.string s, .pointer p] w fun e w' => SchedP f p e w' ∧ ∃ y : Ext w, w' = y.now := by
  obtain ⟨a2, b2, c2⟩ := all_any 0 23 (by decide) (by decide)
  obtain ⟨a3, b3, c3⟩ := all_any 1 31 (by decide) (by decide)
  obtain ⟨a4, b4, c4⟩ := all_any 1 12 (by decide) (by decide)
  obtain ⟨a5, b5, c5⟩ := all_any 0 6 (by decide) (by decide)
  refine ⟨fun i => if i = 0 then 1 else if i = 1 then 1 else if i = 2 then a2 else if i = 3 then a3 else if i = 4 then a4 else a5, fun w p => ?_⟩
  have H2 := Lib.hid (fun (W : World) (r : Option Nat) => (show Calls Tryz.prog 75 #[.agg #[.int .u64 0, .int .u64 23, .map r]] W fun e w' => e = .returned (.int .u64 a2) ∧ ∃ y : Ext W, w' = y.now from c2 W r))
  have H3 := Lib.hid (fun (W : World) (r : Option Nat) => (show Calls Tryz.prog 75 #[.agg #[.int .u64 1, .int .u64 31, .map r]] W fun e w' => e = .returned (.int .u64 a3) ∧ ∃ y : Ext W, w' = y.now from c3 W r))
  have H4 := Lib.hid (fun (W : World) (r : Option Nat) => (show Calls Tryz.prog 75 #[.agg #[.int .u64 1, .int .u64 12, .map r]] W fun e w' => e = .returned (.int .u64 a4) ∧ ∃ y : Ext W, w' = y.now from c4 W r))
  have H5 := Lib.hid (fun (W : World) (r : Option Nat) => (show Calls Tryz.prog 75 #[.agg #[.int .u64 0, .int .u64 6, .map r]] W fun e w' => e = .returned (.int .u64 a5) ∧ ∃ y : Ext W, w' = y.now from c5 W r))
  have hfld : ∀ (a b : Int) (r : Option Nat) (W : World), (Instr.field 109 (.agg #[.int .u64 a, .int .u64 b, .map r]) 0).run Tryz.prog W = .ok (.int .u64 a) W := fun _ _ _ _ => by kernel_rfl
  have HBD := Lib.hid (show a2 < 18446744073709551616 ∧ a3 < 18446744073709551616 ∧ a4 < 18446744073709551616 ∧ a5 < 18446744073709551616 from ⟨b2, b3, b4, b5⟩)
  clear c2 c3 c4 c5 b2 b3 b4 b5
  have k0 : (s.toList == ([64, 121, 101, 97, 114, 108, 121] : List UInt8)) = false := by rw [lit_nats, h]; decide
  have k1 : (s.toList == ([64, 97, 110, 110, 117, 97, 108, 108, 121] : List UInt8)) = false := by rw [lit_nats, h]; decide
  have k2 : (s.toList == ([64, 109, 111, 110, 116, 104, 108, 121] : List UInt8)) = false := by rw [lit_nats, h]; decide
  have k3 : (s.toList == ([64, 119, 101, 101, 107, 108, 121] : List UInt8)) = false := by rw [lit_nats, h]; decide
  have k4 : (s.toList == ([64, 100, 97, 105, 108, 121] : List UInt8)) = false := by rw [lit_nats, h]; decide
  have k5 : (s.toList == ([64, 109, 105, 100, 110, 105, 103, 104, 116] : List UInt8)) = false := by rw [lit_nats, h]; decide
  have k6 : (s.toList == ([64, 104, 111, 117, 114, 108, 121] : List UInt8)) = true := by rw [lit_nats, h]; decide
  clear h
  obtain ⟨z, hz⟩ : ∃ z : Ext w, z = Ext.refl w := ⟨_, rfl⟩
  change Calls Tryz.prog 46 #[.string s, .pointer p] (Ext.refl w).now fun e w' => SchedP _ p e w' ∧ ∃ y : Ext w, w' = y.now
  rw [← hz]
  clear hz
  go_enter Tryz.func46, Tryz.ntmps46
  go_wp2_with (first
    | (go_at_call 51; (with_reducible refine (seconds_lit _).mono ?_); rintro e9 w9 ⟨⟨r9, rfl⟩, y9, rfl⟩; obtain ⟨z, hz⟩ : ∃ z : Ext w, y9.now = z.now := ⟨z.trans y9, rfl⟩; rw [hz]; clear hz)
    | (go_at_call 52; (with_reducible refine (minutes_lit _).mono ?_); rintro e9 w9 ⟨⟨r9, rfl⟩, y9, rfl⟩; obtain ⟨z, hz⟩ : ∃ z : Ext w, y9.now = z.now := ⟨z.trans y9, rfl⟩; rw [hz]; clear hz)
    | (go_at_call 53; (with_reducible refine (hours_lit _).mono ?_); rintro e9 w9 ⟨⟨r9, rfl⟩, y9, rfl⟩; obtain ⟨z, hz⟩ : ∃ z : Ext w, y9.now = z.now := ⟨z.trans y9, rfl⟩; rw [hz]; clear hz)
    | (go_at_call 54; (with_reducible refine (dom_lit _).mono ?_); rintro e9 w9 ⟨⟨r9, rfl⟩, y9, rfl⟩; obtain ⟨z, hz⟩ : ∃ z : Ext w, y9.now = z.now := ⟨z.trans y9, rfl⟩; rw [hz]; clear hz)
    | (go_at_call 55; (with_reducible refine (months_lit _).mono ?_); rintro e9 w9 ⟨⟨r9, rfl⟩, y9, rfl⟩; obtain ⟨z, hz⟩ : ∃ z : Ext w, y9.now = z.now := ⟨z.trans y9, rfl⟩; rw [hz]; clear hz)
    | (go_at_call 56; (with_reducible refine (dow_lit _).mono ?_); rintro e9 w9 ⟨⟨r9, rfl⟩, y9, rfl⟩; obtain ⟨z, hz⟩ : ∃ z : Ext w, y9.now = z.now := ⟨z.trans y9, rfl⟩; rw [hz]; clear hz)
    | (go_at_call 75; (with_reducible refine (H2.out _ _).mono ?_); rintro e9 w9 ⟨rfl, y9, rfl⟩; obtain ⟨z, hz⟩ : ∃ z : Ext w, y9.now = z.now := ⟨z.trans y9, rfl⟩; rw [hz]; clear hz)
    | (go_at_call 75; (with_reducible refine (H3.out _ _).mono ?_); rintro e9 w9 ⟨rfl, y9, rfl⟩; obtain ⟨z, hz⟩ : ∃ z : Ext w, y9.now = z.now := ⟨z.trans y9, rfl⟩; rw [hz]; clear hz)
    | (go_at_call 75; (with_reducible refine (H4.out _ _).mono ?_); rintro e9 w9 ⟨rfl, y9, rfl⟩; obtain ⟨z, hz⟩ : ∃ z : Ext w, y9.now = z.now := ⟨z.trans y9, rfl⟩; rw [hz]; clear hz)
    | (go_at_call 75; (with_reducible refine (H5.out _ _).mono ?_); rintro e9 w9 ⟨rfl, y9, rfl⟩; obtain ⟨z, hz⟩ : ∃ z : Ext w, y9.now = z.now := ⟨z.trans y9, rfl⟩; rw [hz]; clear hz))
  go_ret2
  refine ⟨⟨z.now.heap.size, rfl, ⟨?_, ?_, ?_, ?_, ?_, ?_, by simp, fun i hi => ?_⟩, by simp [go_sem]⟩, z.trans (Ext.one _ _), rfl⟩
  iterate 6 (· simp [go_sem])
  · have := HBD.out
    (try dsimp only)
    repeat (split; · omega)
    omega

end Go.Proofs.YtopcjlimjkfoiaaGreatDoor
