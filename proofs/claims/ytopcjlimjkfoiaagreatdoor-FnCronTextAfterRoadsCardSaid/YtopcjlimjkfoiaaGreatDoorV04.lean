/-
FnCronTextAfterRoads: the calendar, the schedules, their texts and the zones, part 4 of 34.
-/
import Derived.Test.YtopcjlimjkfoiaaGreatDoorV03
import Derived.Test.YtopcjlimjkfoiaaGreatDoorV01
import Derived.OrdersHeld
set_option linter.all false
namespace Go.Proofs.YtopcjlimjkfoiaaGreatDoor
open Go.RowKit Go.Cal
attribute [local go_sem] Ext.cell Ext.frozen Ext.lt Ext.lt_add Ext.cell2 Ext.frozen2

structure Shw (z : Zn) (s A : Int) (D : Nat) : Prop where
  a : A = z.loc s + C0
  a0 : 9000000000000000000 ≤ A
  a1 : A < 9300000000000000000
  d : A / 86400 = (D : Int)
  day : dayN z s = D
  so : sod z s = A % 86400
  d0 : 100000000000000 ≤ D
  d1 : D < 110000000000000

theorem shw {z : Zn} (hp : Plain z) (s : Int) (g0 : -3000000000000000 ≤ s) (g1 : s ≤ 30000000000000) : ∃ A D, Shw z s A D := by
  have hb := hp.bd' s
  have hloc : z.loc s = s + z.off s := rfl
  have hc0 : C0 = 9223372028741760000 := rfl
  have e : (dayN z s : Int) = (z.loc s + C0) / 86400 := by unfold dayN dayI; omega
  exact ⟨z.loc s + C0, dayN z s, rfl, by omega, by omega, e.symm, rfl, rfl, by omega, by omega⟩

theorem absSec_al {w : World} {p : Option Addr} {z : Zn} (h : Tpl w p z) (hp : Plain z) (n s : Int) (h0 : 0 ≤ n) (h1 : n < 1073741824) (g0 : -3000000000000000 ≤ s) (g1 : s ≤ 30000000000000) (o : Obj) :
    Calls Tryz.prog 172 #[tv n (s + 62135596800) p] (w.alloc o) fun e w' => e = .returned (.int .u64 (z.loc s + C0)) ∧ ∃ y : Ext (w.alloc o), w' = y.now :=
  absSec_any (h.ext (Ext.one w o)) hp n s h0 h1 g0 g1

section
variable {w : World} {p : Option Addr} {z : Zn} (h : Tpl w p z) (hp : Plain z) (n s : Int) (h0 : 0 ≤ n) (h1 : n < 1073741824) (g0 : -3000000000000000 ≤ s) (g1 : s ≤ 30000000000000)
include h hp h0 h1 g0 g1

set_option maxRecDepth 100000 in
theorem hour_any : Calls Tryz.prog 168 #[tv n (s + 62135596800) p] w fun e w' => e = .returned (.int .i64 (hr z s : Nat)) ∧ ∃ y : Ext w, w' = y.now := by
  obtain ⟨A, D, q⟩ := shw hp s g0 g1
  have HA := Lib.hid (fun o => absSec_al h hp n s h0 h1 g0 g1 o)
  rw [← q.a] at HA
  have a0 := q.a0; have a1 := q.a1
  have e : ((hr z s : Nat) : Int) = A % 86400 / 3600 := by unfold hr; rw [q.so]; omega
  rw [e]
  clear e q h g0 g1
  go_enter Tryz.func168, Tryz.ntmps168
  go_wp2_with (go_at_call 172; go_loud ((with_reducible refine (HA.out _).mono ?_); rintro e w1 ⟨rfl, y, rfl⟩))
  go_ret
  exact ⟨rfl, y.via⟩

set_option maxRecDepth 100000 in
theorem minute_any : Calls Tryz.prog 169 #[tv n (s + 62135596800) p] w fun e w' => e = .returned (.int .i64 (mi z s : Nat)) ∧ ∃ y : Ext w, w' = y.now := by
  obtain ⟨A, D, q⟩ := shw hp s g0 g1
  have HA := Lib.hid (fun o => absSec_al h hp n s h0 h1 g0 g1 o)
  rw [← q.a] at HA
  have a0 := q.a0; have a1 := q.a1
  have e : ((mi z s : Nat) : Int) = A % 3600 / 60 := by unfold mi; rw [q.so]; omega
  rw [e]
  clear e q h g0 g1
  go_enter Tryz.func169, Tryz.ntmps169
  go_wp2_with (go_at_call 172; go_loud ((with_reducible refine (HA.out _).mono ?_); rintro e w1 ⟨rfl, y, rfl⟩))
  go_ret
  exact ⟨rfl, y.via⟩

set_option maxRecDepth 100000 in
theorem second_any : Calls Tryz.prog 171 #[tv n (s + 62135596800) p] w fun e w' => e = .returned (.int .i64 (sc z s : Nat)) ∧ ∃ y : Ext w, w' = y.now := by
  obtain ⟨A, D, q⟩ := shw hp s g0 g1
  have HA := Lib.hid (fun o => absSec_al h hp n s h0 h1 g0 g1 o)
  rw [← q.a] at HA
  have a0 := q.a0; have a1 := q.a1
  have e : ((sc z s : Nat) : Int) = A % 60 := by unfold sc; rw [q.so]; omega
  rw [e]
  clear e q h g0 g1
  go_enter Tryz.func171, Tryz.ntmps171
  go_wp2_with (go_at_call 172; go_loud ((with_reducible refine (HA.out _).mono ?_); rintro e w1 ⟨rfl, y, rfl⟩))
  go_ret
  exact ⟨rfl, y.via⟩

set_option maxRecDepth 100000 in
theorem weekdayM_any : Calls Tryz.prog 185 #[tv n (s + 62135596800) p] w fun e w' => e = .returned (.int .i64 (wd z s : Nat)) ∧ ∃ y : Ext w, w' = y.now := by
  obtain ⟨A, D, q⟩ := shw hp s g0 g1
  have HA := Lib.hid (fun o => absSec_al h hp n s h0 h1 g0 g1 o)
  rw [← q.a] at HA
  have a0 := q.a0; have a1 := q.a1
  have HD := Lib.hid (fun w => days_any A w (by omega) (by omega))
  rw [q.d] at HD
  have d1 := q.d1
  have HW := Lib.hid (fun w => weekday_any D w (by omega))
  have e : wd z s = wdD D := by unfold wd wdD; rw [q.day]
  rw [e]
  clear e q h g0 g1
  go_enter Tryz.func185, Tryz.ntmps185
  go_wp2_with (first
    | (go_at_call 172; go_loud ((with_reducible refine (HA.out _).mono ?_); rintro e w1 ⟨rfl, y, rfl⟩))
    | (go_at_call 173; go_loud ((with_reducible refine (HD.out _).mono ?_); rintro e w1 ⟨rfl, rfl⟩))
    | (go_at_call 192; go_loud ((with_reducible refine (HW.out _).mono ?_); rintro e w1 ⟨rfl, rfl⟩)))
  go_ret
  exact ⟨rfl, y.via⟩

set_option maxRecDepth 100000 in
theorem dateM_any : Calls Tryz.prog 183 #[tv n (s + 62135596800) p] w fun e w' => e = .returned (.tuple #[.int .i64 ((yr z s : Nat) - 292277022400), .int .i64 (mo z s : Nat), .int .i64 (dy z s : Nat)]) ∧ ∃ y : Ext w, w' = y.now := by
  obtain ⟨A, D, q⟩ := shw hp s g0 g1
  have HA := Lib.hid (fun o => absSec_al h hp n s h0 h1 g0 g1 o)
  rw [← q.a] at HA
  have a0 := q.a0; have a1 := q.a1
  have HD := Lib.hid (fun w => days_any A w (by omega) (by omega))
  rw [q.d] at HD
  have d1 := q.d1
  have HW := Lib.hid (fun w => date_any D w (by omega))
  have e1 : yr z s = yearD D := by unfold yr; rw [q.day]
  have e2 : mo z s = monD D := by unfold mo; rw [q.day]
  have e3 : dy z s = dayD D := by unfold dy; rw [q.day]
  rw [e1, e2, e3]
  clear e1 e2 e3 q h g0 g1
  generalize ((yearD D : Nat) : Int) - 292277022400 = Y at *
  generalize monD D = M at *
  generalize dayD D = d at *
  go_enter Tryz.func183, Tryz.ntmps183
  go_wp2_with (first
    | (go_at_call 172; go_loud ((with_reducible refine (HA.out _).mono ?_); rintro e w1 ⟨rfl, y, rfl⟩))
    | (go_at_call 173; go_loud ((with_reducible refine (HD.out _).mono ?_); rintro e w1 ⟨rfl, rfl⟩))
    | (go_at_call 190; go_loud ((with_reducible refine (HW.out _).mono ?_); rintro e w1 ⟨rfl, rfl⟩)))
  exact bodyPost_ret (v := .tuple #[.int .i64 Y, .int .i64 M, .int .i64 d]) (by simp [results, Tryz.results183, go_sem]) rfl ⟨rfl, y.via⟩

set_option maxRecDepth 100000 in
theorem clockM_any : Calls Tryz.prog 184 #[tv n (s + 62135596800) p] w fun e w' => e = .returned (.tuple #[.int .i64 (hr z s : Nat), .int .i64 (mi z s : Nat), .int .i64 (sc z s : Nat)]) ∧ ∃ y : Ext w, w' = y.now := by
  obtain ⟨A, D, q⟩ := shw hp s g0 g1
  have HA := Lib.hid (fun o => absSec_al h hp n s h0 h1 g0 g1 o)
  rw [← q.a] at HA
  have a0 := q.a0; have a1 := q.a1
  have HD := Lib.hid (fun w => clock_any A w (by omega) (by omega))
  have e1 : ((hr z s : Nat) : Int) = A % 86400 / 3600 := by unfold hr; rw [q.so]; omega
  have e2 : ((mi z s : Nat) : Int) = A % 86400 % 3600 / 60 := by unfold mi; rw [q.so]; omega
  have e3 : ((sc z s : Nat) : Int) = A % 60 := by unfold sc; rw [q.so]; omega
  rw [e1, e2, e3]
  clear e1 e2 e3 q h g0 g1
  generalize A % 86400 / 3600 = H at *
  generalize A % 86400 % 3600 / 60 = M at *
  generalize A % 60 = S at *
  go_enter Tryz.func184, Tryz.ntmps184
  go_wp2_with (first
    | (go_at_call 172; go_loud ((with_reducible refine (HA.out _).mono ?_); rintro e w1 ⟨rfl, y, rfl⟩))
    | (go_at_call 191; go_loud ((with_reducible refine (HD.out _).mono ?_); rintro e w1 ⟨rfl, rfl⟩)))
  exact bodyPost_ret (v := .tuple #[.int .i64 H, .int .i64 M, .int .i64 S]) (by simp [results, Tryz.results184, go_sem]) rfl ⟨rfl, y.via⟩

set_option maxRecDepth 100000 in
theorem dayM_any : Calls Tryz.prog 159 #[tv n (s + 62135596800) p] w fun e w' => e = .returned (.int .i64 (dy z s : Nat)) ∧ ∃ y : Ext w, w' = y.now := by
  obtain ⟨A, D, q⟩ := shw hp s g0 g1
  have HA := Lib.hid (fun o => absSec_al h hp n s h0 h1 g0 g1 o)
  rw [← q.a] at HA
  have a0 := q.a0; have a1 := q.a1
  have HD := Lib.hid (fun w => days_any A w (by omega) (by omega))
  rw [q.d] at HD
  have d1 := q.d1
  obtain ⟨k, hpt⟩ := parts D
  have ha : ayd D < 366 := hpt.ha
  have HS := Lib.hid (fun w => split_any D w (by omega))
  have HM := Lib.hid (fun w => msplit_any (ayd D) w ha)
  have e3 : dy z s = 1 + mdayOf (ayd D) := by unfold dy; rw [q.day]; rfl
  rw [e3]
  clear e3 q h g0 g1 hpt
  generalize 1 + mdayOf (ayd D) = d at *
  generalize amonOf (ayd D) = am at *
  generalize ayd D = ad at *
  generalize cyr D = cy at *
  generalize cen D = ce at *
  go_enter Tryz.func159, Tryz.ntmps159
  go_wp2_with (first
    | (go_at_call 172; go_loud ((with_reducible refine (HA.out _).mono ?_); rintro e w1 ⟨rfl, y, rfl⟩))
    | (go_at_call 173; go_loud ((with_reducible refine (HD.out _).mono ?_); rintro e w1 ⟨rfl, rfl⟩))
    | (go_at_call 174; go_loud ((with_reducible refine (HS.out _).mono ?_); rintro e w1 ⟨rfl, rfl⟩))
    | (go_at_call 175; go_loud ((with_reducible refine (HM.out _).mono ?_); rintro e w1 ⟨rfl, rfl⟩)))
  go_ret
  exact ⟨rfl, y.via⟩

set_option maxRecDepth 100000 in
theorem yearM_any : Calls Tryz.prog 163 #[tv n (s + 62135596800) p] w fun e w' => e = .returned (.int .i64 ((yr z s : Nat) - 292277022400)) ∧ ∃ y : Ext w, w' = y.now := by
  obtain ⟨A, D, q⟩ := shw hp s g0 g1
  have HA := Lib.hid (fun o => absSec_al h hp n s h0 h1 g0 g1 o)
  rw [← q.a] at HA
  have a0 := q.a0; have a1 := q.a1
  have HD := Lib.hid (fun w => days_any A w (by omega) (by omega))
  rw [q.d] at HD
  have d1 := q.d1
  obtain ⟨k, hpt⟩ := parts D
  have ha : ayd D < 366 := hpt.ha
  have HS := Lib.hid (fun w => split_any D w (by omega))
  have HJ := Lib.hid (fun w => janFeb_any (ayd D) w ha)
  have HY := Lib.hid (fun w => year_any (cen D) (cyr D) (jfb D) w (by unfold cen; omega) hpt.hcy (jf_le D))
  rw [show (if 306 ≤ ayd D then 1 else 0) = jfb D from rfl] at HJ
  have e3 : yr z s = cen D * 100 + cyr D + jfb D := by unfold yr; rw [q.day]; rfl
  rw [e3]
  clear e3 q h g0 g1 hpt
  generalize ((cen D * 100 + cyr D + jfb D : Nat) : Int) - 292277022400 = Y at *
  generalize jfb D = jf at *
  generalize ayd D = ad at *
  generalize cyr D = cy at *
  generalize cen D = ce at *
  go_enter Tryz.func163, Tryz.ntmps163
  go_wp2_with (first
    | (go_at_call 172; go_loud ((with_reducible refine (HA.out _).mono ?_); rintro e w1 ⟨rfl, y, rfl⟩))
    | (go_at_call 173; go_loud ((with_reducible refine (HD.out _).mono ?_); rintro e w1 ⟨rfl, rfl⟩))
    | (go_at_call 174; go_loud ((with_reducible refine (HS.out _).mono ?_); rintro e w1 ⟨rfl, rfl⟩))
    | (go_at_call 177; go_loud ((with_reducible refine (HJ.out _).mono ?_); rintro e w1 ⟨rfl, rfl⟩))
    | (go_at_call 178; go_loud ((with_reducible refine (HY.out _).mono ?_); rintro e w1 ⟨rfl, rfl⟩)))
  go_ret
  exact ⟨rfl, y.via⟩

set_option maxRecDepth 100000 in
theorem monthM_any : Calls Tryz.prog 164 #[tv n (s + 62135596800) p] w fun e w' => e = .returned (.int .i64 (mo z s : Nat)) ∧ ∃ y : Ext w, w' = y.now := by
  obtain ⟨A, D, q⟩ := shw hp s g0 g1
  have HA := Lib.hid (fun o => absSec_al h hp n s h0 h1 g0 g1 o)
  rw [← q.a] at HA
  have a0 := q.a0; have a1 := q.a1
  have HD := Lib.hid (fun w => days_any A w (by omega) (by omega))
  rw [q.d] at HD
  have d1 := q.d1
  obtain ⟨k, hpt⟩ := parts D
  have ha : ayd D < 366 := hpt.ha
  have hm := a_ok (ayd D) ha (jfb D) rfl
  have HS := Lib.hid (fun w => split_any D w (by omega))
  have HJ := Lib.hid (fun w => janFeb_any (ayd D) w ha)
  have HM := Lib.hid (fun w => msplit_any (ayd D) w ha)
  have HO := Lib.hid (fun w => month_any (amonOf (ayd D)) (jfb D) w (by omega) (jf_le D) (by omega))
  rw [show (if 306 ≤ ayd D then 1 else 0) = jfb D from rfl] at HJ
  have e3 : mo z s = amonOf (ayd D) - 12 * jfb D := by unfold mo; rw [q.day]; rfl
  rw [e3]
  clear e3 q h g0 g1 hpt hm
  generalize amonOf (ayd D) - 12 * jfb D = M at *
  generalize amonOf (ayd D) = am at *
  generalize 1 + mdayOf (ayd D) = d at *
  generalize jfb D = jf at *
  generalize ayd D = ad at *
  generalize cyr D = cy at *
  generalize cen D = ce at *
  go_enter Tryz.func164, Tryz.ntmps164
  go_wp2_with (first
    | (go_at_call 172; go_loud ((with_reducible refine (HA.out _).mono ?_); rintro e w1 ⟨rfl, y, rfl⟩))
    | (go_at_call 173; go_loud ((with_reducible refine (HD.out _).mono ?_); rintro e w1 ⟨rfl, rfl⟩))
    | (go_at_call 174; go_loud ((with_reducible refine (HS.out _).mono ?_); rintro e w1 ⟨rfl, rfl⟩))
    | (go_at_call 175; go_loud ((with_reducible refine (HM.out _).mono ?_); rintro e w1 ⟨rfl, rfl⟩))
    | (go_at_call 177; go_loud ((with_reducible refine (HJ.out _).mono ?_); rintro e w1 ⟨rfl, rfl⟩))
    | (go_at_call 179; go_loud ((with_reducible refine (HO.out _).mono ?_); rintro e w1 ⟨rfl, rfl⟩)))
  go_ret
  exact ⟨rfl, y.via⟩

end
end Go.Proofs.YtopcjlimjkfoiaaGreatDoor
namespace Go.Proofs.YtopcjlimjkfoiaaGreatDoor
open Go.RowKit Go.Cal
attribute [local go_sem] Ext.cell Ext.frozen Ext.lt Ext.lt_add Ext.cell2 Ext.frozen2

inductive Lpl (w : World) (l : Nat) : Option Addr → Zn → Prop
  | utc {c : Nat} (c0 : w.cell? ⟨l, 0, none⟩ = some (.bool true)) (c2 : w.cell? ⟨l, 2, none⟩ = some (.slice none 0 c)) (lt : l < w.heap.size) : Lpl w l none utcZn
  | zone {zb tb m : Nat} {ix : Nat → Nat} {z : Zn} (h : ZoneAt w l zb tb m ix z) : Lpl w l (some ⟨l, 0, none⟩) z

theorem Lpl.ext {w : World} {l : Nat} {p : Option Addr} {z : Zn} (h : Lpl w l p z) (x : Ext w) : Lpl x.now l p z := by
  cases h with
  | utc c0 c2 lt => exact .utc (by rw [x.cell _ _ lt]; exact c0) (by rw [x.cell _ _ lt]; exact c2) (x.lt _ lt)
  | zone h => exact .zone (h.ext x)

theorem Lpl.lt {w : World} {l : Nat} {p : Option Addr} {z : Zn} (h : Lpl w l p z) : l < w.heap.size := by
  cases h with
  | utc c0 c2 lt => exact lt
  | zone h => exact h.lt.1

theorem Lpl.tpl {w : World} {l : Nat} {p : Option Addr} {z : Zn} (h : Lpl w l p z) : Tpl w p z := by
  cases h with
  | utc c0 c2 lt => exact .utc
  | zone h => exact .zone h

theorem utc_end (s : Int) : endv utcZn (utcZn.idx s + 1) = 9223372036854775807 := by
  unfold endv
  rw [if_neg]
  show ¬ utcZn.idx s + 1 < 1
  omega

theorem lookup_l {w : World} {l : Nat} {p : Option Addr} {z : Zn} (h : Lpl w l p z) (hp : Plain z) (s : Int) (s0 : -9223372036854775808 ≤ s) (s1 : s < 9223372036854775807) :
    Calls Tryz.prog 182 #[.pointer (some ⟨l, 0, none⟩), .int .i64 s] w fun e w' => (∃ nm dst, e = .returned (.tuple #[nm, .int .i64 (z.off s), .int .i64 (z.w (z.idx s)), .int .i64 (endv z (z.idx s + 1)), dst])) ∧ ∃ y : Ext w, w' = y.now := by
  cases h with
  | utc c0 c2 lt =>
    rw [utc_end]
    refine (lookup_utcBlock l s w _ c2).mono ?_
    rintro e w' ⟨h, rfl⟩
    exact ⟨h, Ext.here _⟩
  | zone h => exact lookup_zone h hp s s0 s1

theorem setLoc_l {w : World} {l : Nat} {p : Option Addr} {z : Zn} (h : Lpl w l p z) (b off : Nat) (wall : Int) (h0 : 0 ≤ wall) (h1 : wall < 1073741824)
    (hc0 : w.cell? ⟨b, off, none⟩ = some (.int .u64 wall)) (hf2 : w.frozen? ⟨b, off + 2, none⟩ = false)
    (v : Value) (hc2 : w.cell? ⟨b, off + 2, none⟩ = some v) :
    Calls Tryz.prog 86 #[.pointer (some ⟨b, off, none⟩), .pointer (some ⟨l, 0, none⟩)] w fun e w' => e = .returned (.tuple #[]) ∧ w' = w.setCell ⟨b, off + 2, none⟩ (.pointer p) := by
  cases h with
  | utc c0 c2 lt => exact setLoc_utc b off l wall w h0 h1 hc0 c0 hf2 v hc2
  | zone h => exact setLoc_zone b off l wall w h0 h1 hc0 h.utc hf2 v hc2

theorem in_l {w : World} {l : Nat} {p : Option Addr} {z : Zn} (h : Lpl w l p z) (n x : Int) (q : Option Addr) (h0 : 0 ≤ n) (h1 : n < 1073741824) :
    Calls Tryz.prog 60 #[tv n x q, .pointer (some ⟨l, 0, none⟩)] w fun e w' => e = .returned (tv n x p) ∧ ∃ y : Ext w, w' = y.now := by
  cases h with
  | utc c0 c2 lt => exact to_ext (in_utc n x q l w h0 h1 c0 lt)
  | zone h => exact to_ext (in_zone n x q l w h0 h1 h.utc h.lt.1)

theorem location_any {w : World} {p : Option Addr} {z : Zn} (h : Tpl w p z) (n x : Int) :
    Calls Tryz.prog 161 #[tv n x p] w fun e w' => ∃ l, e = .returned (.pointer (some ⟨l, 0, none⟩)) ∧ Lpl w' l p z ∧ ∃ y : Ext w, w' = y.now := by
  cases h with
  | utc =>
    go_enter Tryz.func161, Tryz.ntmps161
    go_wp2_with (go_at_call 61; refine (utc_two _).mono ?_; rintro e w' ⟨l, rfl, h0, h2, hl, y, rfl⟩)
    go_ret
    exact ⟨l, rfl, .utc h0 h2 hl, y.via⟩
  | @zone l zb tb m ix _ hz =>
    go_enter Tryz.func161, Tryz.ntmps161
    go_wp2
    go_ret
    exact ⟨l, rfl, .zone (hz.ext (Ext.one w _)), Ext.alloc1 _ _⟩

set_option maxRecDepth 100000 in
theorem absDays_all (Y M : Nat) (d : Int) (w : World) (h1 : 1 ≤ M) (h2 : M ≤ 12) (g0 : 2 ≤ Y) (g1 : Y < 1000000000000) (d0 : 1 ≤ d) (d1 : d < 1000000) :
    Calls Tryz.prog 181 #[.int .i64 ((Y : Int) - 292277022400), .int .i64 M, .int .i64 d] w fun e w' => e = .returned (.int .u64 ((firstD Y M : Nat) + (d - 1))) ∧ w' = w := by
  by_cases h : M < 3
  · have h' : (M : Int) < 3 := by omega
    have hj : jfM M = 1 := by unfold jfM; rw [if_pos h]
    obtain ⟨y, rfl⟩ : ∃ y, Y = y + 1 := ⟨Y - 1, by omega⟩
    rw [firstD_int (y + 1) M y (M + 12) (by rw [hj]; rfl) (by rw [hj]) (by omega)]
    obtain ⟨X, hX⟩ : ∃ X : Int, X = (((y + 1 : Nat) : Int) - 292277022400) := ⟨_, rfl⟩
    have e2 : IntKind.u64.wrap (IntKind.u64.wrap (IntKind.u64.wrap X - 1) + 292277022400) = (y : Int) := by
      simp [IntKind.wrap, IntKind.bits, IntKind.signed]
      omega
    have y0 : 1 ≤ (y : Int) := by omega
    have y1 : (y : Int) < 1000000000000 := by omega
    rw [← hX]
    clear hX hj h g0
    have e3 : ((M + 12 : Nat) : Int) = (M : Int) + 12 := by omega
    rw [e3]
    clear e3
    go_enter Tryz.func181, Tryz.ntmps181
    go_wp2
    exact bodyPost_ret (v := .int .u64 (146097 * ((y : Int) / 100) / 4 + (1461 * ((y : Int) % 100) / 4 + (979 * ((M : Int) + 12) - 2919) / 32 + d - 1))) (by simp [results, Tryz.results181, go_sem]) rfl ⟨by congr 2; omega, rfl⟩
  · have h' : ¬ (M : Int) < 3 := by omega
    have hj : jfM M = 0 := by unfold jfM; rw [if_neg h]
    rw [firstD_int Y M Y M (by rw [hj]; rfl) (by rw [hj]; rfl) (by omega)]
    obtain ⟨X, hX⟩ : ∃ X : Int, X = ((Y : Int) - 292277022400) := ⟨_, rfl⟩
    have e2 : IntKind.u64.wrap (IntKind.u64.wrap (IntKind.u64.wrap X) + 292277022400) = (Y : Int) := by
      simp [IntKind.wrap, IntKind.bits, IntKind.signed]
      omega
    have y0 : 1 ≤ (Y : Int) := by omega
    have y1 : (Y : Int) < 1000000000000 := by omega
    rw [← hX]
    clear hX hj h g0
    go_enter Tryz.func181, Tryz.ntmps181
    go_wp2
    exact bodyPost_ret (v := .int .u64 (146097 * ((Y : Int) / 100) / 4 + (1461 * ((Y : Int) % 100) / 4 + (979 * (M : Int) - 2919) / 32 + d - 1))) (by simp [results, Tryz.results181, go_sem]) rfl ⟨by congr 2; omega, rfl⟩

end Go.Proofs.YtopcjlimjkfoiaaGreatDoor
namespace Go.Proofs.YtopcjlimjkfoiaaGreatDoor
open Go.RowKit Go.Cal
attribute [local go_sem] Ext.cell Ext.frozen Ext.lt Ext.lt_add Ext.cell2 Ext.frozen2

theorem find_bd {z : Zn} (hp : Plain z) (l : Int) : l - 86400 ≤ z.find l ∧ z.find l ≤ l + 86400 := by
  have a := hp.bd' l
  have b := hp.bd' (l - z.o (z.idx l))
  have e : z.off l = z.o (z.idx l) := rfl
  unfold Zn.find
  simp only
  split
  · omega
  · split <;> omega

theorem find_code {z : Zn} (hp : Plain z) (l : Int) (g0 : -3000000000000000 ≤ l) (g1 : l ≤ 30000000000000) :
    (z.off l = 0 ∧ z.find l = l) ∨
    (z.off l ≠ 0 ∧ (l - z.off l < z.w (z.idx l) ∨ endv z (z.idx l + 1) ≤ l - z.off l) ∧ z.find l = l - z.off (l - z.off l)) ∨
    (z.off l ≠ 0 ∧ ¬ l - z.off l < z.w (z.idx l) ∧ ¬ endv z (z.idx l + 1) ≤ l - z.off l ∧ z.find l = l - z.off l) := by
  have a := hp.bd' l
  have e : z.o (z.idx l) = z.off l := rfl
  have ee : endv z (z.idx l + 1) ≤ l - z.off l ↔ (z.idx l + 1 < z.n ∧ z.w (z.idx l + 1) ≤ l - z.off l) := by
    unfold endv
    constructor
    · intro h
      split at h
      · exact ⟨by assumption, h⟩
      · exfalso; omega
    · rintro ⟨h1, h2⟩
      rw [if_pos h1]; exact h2
  unfold Zn.find
  simp only [e]
  by_cases h0 : z.off l = 0
  · exact .inl ⟨h0, by rw [if_pos h0]⟩
  · rw [if_neg h0]
    by_cases h1 : l - z.off l < z.w (z.idx l) ∨ (z.idx l + 1 < z.n ∧ z.w (z.idx l + 1) ≤ l - z.off l)
    · refine .inr (.inl ⟨h0, ?_, by rw [if_pos h1]⟩)
      rcases h1 with h1 | h1
      · exact .inl h1
      · exact .inr (ee.2 h1)
    · refine .inr (.inr ⟨h0, fun q => h1 (.inl q), fun q => h1 (.inr (ee.1 q)), by rw [if_neg h1]⟩)

theorem day_wrap (D s : Int) (h0 : 0 ≤ D) (h1 : D < 110000000000000) (hs0 : 0 ≤ s) (hs1 : s < 86400) (g0 : -3000000000000000 ≤ 86400 * D + s - C0) (g1 : 86400 * D + s - C0 ≤ 30000000000000) : wrap64 (wrap64 (wrap64 (D * 86400) + s) + -9223372028741760000) = 86400 * D + s - C0 := by
  have hc0 : C0 = 9223372028741760000 := rfl
  simp only [wrap64]
  omega

theorem Lpl.alloc {w : World} {l : Nat} {p : Option Addr} {z : Zn} (h : Lpl w l p z) (o : Obj) : Lpl (w.alloc o) l p z := h.ext (Ext.one w o)

theorem lookup_al {w : World} {l : Nat} {p : Option Addr} {z : Zn} (h : Lpl w l p z) (hp : Plain z) (s : Int) (s0 : -9223372036854775808 ≤ s) (s1 : s < 9223372036854775807) (o : Obj) :
    Calls Tryz.prog 182 #[.pointer (some ⟨l, 0, none⟩), .int .i64 s] (w.alloc o) fun e w' => (∃ nm dst, e = .returned (.tuple #[nm, .int .i64 (z.off s), .int .i64 (z.w (z.idx s)), .int .i64 (endv z (z.idx s + 1)), dst])) ∧ ∃ y : Ext (w.alloc o), w' = y.now :=
  lookup_l (h.ext (Ext.one w o)) hp s s0 s1

theorem Ext.fin {w : World} {o o2 : Obj} {a b c : Addr} {v1 v2 v3 : Value} (x : Ext (w.alloc o)) (ha : w.heap.size ≤ a.block) (hb : w.heap.size ≤ b.block) (hc : w.heap.size ≤ c.block) :
    ∃ y : Ext w, (((x.now.setCell a v1).setCell b v2).setCell c v3).alloc o2 = y.now :=
  have hB := ((((Ext.one w o).trans x).below.setCell ha v1).setCell hb v2).setCell hc v3
  ⟨⟨_, hB.alloc hB.size o2⟩, rfl⟩

theorem lookup_ex {w : World} {l : Nat} {p : Option Addr} {z : Zn} {x : Ext w} (h : Lpl x.now l p z) (hp : Plain z) (s : Int) (s0 : -9223372036854775808 ≤ s) (s1 : s < 9223372036854775807) :
    Calls Tryz.prog 182 #[.pointer (some ⟨l, 0, none⟩), .int .i64 s] x.now fun e w' => (∃ nm dst, e = .returned (.tuple #[nm, .int .i64 (z.off s), .int .i64 (z.w (z.idx s)), .int .i64 (endv z (z.idx s + 1)), dst])) ∧ ∃ y : Ext w, w' = y.now :=
  (lookup_l h hp s s0 s1).mono fun _ _ ⟨he, y, hy⟩ => ⟨he, x.trans y, hy⟩

set_option maxRecDepth 100000 in
set_option maxHeartbeats 2000000 in
theorem date_ym {w : World} {l : Nat} {p : Option Addr} {z : Zn} (hl : Lpl w l p z) (hp : Plain z) (Y M Y2 M2 : Nat) (d hh mm ss n T : Int)
    (hn : ∀ w, Calls Tryz.prog 180 #[.int .i64 ((Y : Int) - 292277022400), .int .i64 ((M : Int) - 1), .int .i64 12] w fun e w' => e = .returned (.tuple #[.int .i64 ((Y2 : Int) - 292277022400), .int .i64 ((M2 : Int) - 1)]) ∧ w' = w)
    (y0 : 2 ≤ Y2) (y1 : Y2 < 1000000000000) (m0 : 1 ≤ M2) (m1 : M2 ≤ 12) (q0 : 1 ≤ M) (q1 : M ≤ 13) (d0 : 1 ≤ d) (d1 : d < 1000) (h0 : 0 ≤ hh) (h1 : hh < 24) (i0 : 0 ≤ mm) (i1 : mm < 60) (s0 : 0 ≤ ss) (s1 : ss < 60) (n0 : 0 ≤ n) (n1 : n < 1000000000)
    (hT : T = 86400 * ((firstD Y2 M2 : Nat) + (d - 1)) + (3600 * hh + 60 * mm + ss) - C0) (g0 : -3000000000000000 ≤ T) (g1 : T ≤ 30000000000000) :
    Calls Tryz.prog 165 #[.int .i64 ((Y : Int) - 292277022400), .int .i64 M, .int .i64 d, .int .i64 hh, .int .i64 mm, .int .i64 ss, .int .i64 n, .pointer (some ⟨l, 0, none⟩)] w fun e w' => e = .returned (tv n (z.find T + 62135596800) p) ∧ ∃ y : Ext w, w' = y.now := by
  obtain ⟨D, hD⟩ : ∃ D : Int, D = (firstD Y2 M2 : Nat) + (d - 1) := ⟨_, rfl⟩
  obtain ⟨S, hS⟩ : ∃ S : Int, S = hh * 3600 + mm * 60 + ss := ⟨_, rfl⟩
  have hc0 : C0 = 9223372028741760000 := rfl
  have hD0 : 100000000000000 ≤ D := by rw [hT, ← hD] at g0; omega
  have hD1 : D < 110000000000000 := by rw [hT, ← hD] at g1; omega
  have HA := Lib.hid (fun w => absDays_all Y2 M2 d w m0 m1 y0 y1 d0 (by omega))
  rw [← hD] at HA
  have HW := Lib.hid (day_wrap D S (by omega) (by omega) (by omega) (by omega) (by rw [hT, ← hD] at g0; omega) (by rw [hT, ← hD] at g1; omega))
  rw [show 86400 * D + S - C0 = T by rw [hT, ← hD, hS]; omega] at HW
  subst hS
  have HN := Lib.hid hn
  have HL := Lib.hid (fun o => lookup_al hl hp T (by omega) (by omega) o)
  have HN1 := Lib.hid (fun w => norm_in ss n 1000000000 w n0 n1 (by omega) (by omega) (by omega))
  have HN2 := Lib.hid (fun w => norm_in mm ss 60 w s0 s1 (by omega) (by omega) (by omega))
  have HN3 := Lib.hid (fun w => norm_in hh mm 60 w i0 i1 (by omega) (by omega) (by omega))
  have HN4 := Lib.hid (fun w => norm_in d hh 24 w h0 h1 (by omega) (by omega) (by omega))
  have hSS : IntKind.i64.wrap 0 = 0 := rfl
  obtain ⟨hb1, hb2, -⟩ := hp.bd' T
  obtain ⟨hb3, hb4, -⟩ := hp.bd' (T - z.off T)
  generalize hY : ((Y : Int) - 292277022400) = X at *
  generalize hX : ((Y2 : Int) - 292277022400) = X2 at *
  rcases find_code hp T g0 g1 with ⟨c1, c2⟩ | ⟨c1, c2, c3⟩ | ⟨c1, c2, c3, c4⟩
  · rw [c2]
    have HU := Lib.hid (fun o (y : Ext (w.alloc o)) => calls_ext (x := y) (to_ext (unixTime_any (T) n y.now (by omega) (by omega) n0 n1)))
    rw [c1] at HL
    clear hT g0 g1 hn hD
    go_enter Tryz.func165, Tryz.ntmps165
    go_wp2_with (first
      | (go_at_call 180; first
        | ((with_reducible refine (HN.out _).mono ?_); rintro e w1 ⟨rfl, rfl⟩)
        | ((with_reducible refine (HN1.out _).mono ?_); rintro e w1 ⟨rfl, rfl⟩)
        | ((with_reducible refine (HN2.out _).mono ?_); rintro e w1 ⟨rfl, rfl⟩)
        | ((with_reducible refine (HN3.out _).mono ?_); rintro e w1 ⟨rfl, rfl⟩)
        | ((with_reducible refine (HN4.out _).mono ?_); rintro e w1 ⟨rfl, rfl⟩))
      | (go_at_call 181; (with_reducible refine (HA.out _).mono ?_); rintro e w1 ⟨rfl, rfl⟩)
      | (go_at_call 182; rw [HW.out]; (with_reducible refine (HL.out _).mono ?_); rintro e w1 ⟨⟨nm, dst, rfl⟩, y, rfl⟩)
      | (go_at_call 85; (with_reducible refine (HU.out _ _).mono ?_); rintro e w1 ⟨rfl, y3, rfl⟩)
      | (go_at_call 86; go_loud (refine (setLoc_l (((hl.alloc _).ext y3).alloc _) _ _ n n0 (by omega) (by simp [go_sem]) (by simp [go_sem]) (.pointer none) (by simp [go_sem])).mono ?_; rintro e w1 ⟨rfl, rfl⟩)))
    exact bodyPost_ret (v := tv n (T + 62135596800) p) (by simp [results, Tryz.results165, go_sem]) rfl
      ⟨rfl, y3.fin (Nat.le_refl _) (Nat.le_refl _) (Nat.le_refl _)⟩
  · rw [c3]
    have HL2 := Lib.hid (fun o (y : Ext (w.alloc o)) => lookup_ex ((hl.alloc o).ext y) hp (T - z.off T) (by omega) (by omega))
    generalize z.off (T - z.off T) = o2 at *
    generalize z.off T = o1 at *
    generalize z.w (z.idx T) = w1 at *
    generalize endv z (z.idx T + 1) = e1 at *
    rcases c2 with c2 | c2
    · skip
      have HU := Lib.hid (fun o (y : Ext (w.alloc o)) => calls_ext (x := y) (to_ext (unixTime_any (T - o2) n y.now (by omega) (by omega) n0 n1)))
      skip
      clear hT hn hD
      go_enter Tryz.func165, Tryz.ntmps165
      go_wp2_with (first
        | (go_at_call 180; first
          | ((with_reducible refine (HN.out _).mono ?_); rintro e w1 ⟨rfl, rfl⟩)
          | ((with_reducible refine (HN1.out _).mono ?_); rintro e w1 ⟨rfl, rfl⟩)
          | ((with_reducible refine (HN2.out _).mono ?_); rintro e w1 ⟨rfl, rfl⟩)
          | ((with_reducible refine (HN3.out _).mono ?_); rintro e w1 ⟨rfl, rfl⟩)
          | ((with_reducible refine (HN4.out _).mono ?_); rintro e w1 ⟨rfl, rfl⟩))
        | (go_at_call 181; (with_reducible refine (HA.out _).mono ?_); rintro e w1 ⟨rfl, rfl⟩)
        | (go_at_call 182; first | (rw [HW.out]; (with_reducible refine (HL.out _).mono ?_); rintro e w1 ⟨⟨nm, dst, rfl⟩, y, rfl⟩) | ((with_reducible refine (HL2.out _ _).mono ?_); rintro e w1 ⟨⟨nm2, dst2, rfl⟩, y4, rfl⟩))
        | (go_at_call 85; (with_reducible refine (HU.out _ _).mono ?_); rintro e w1 ⟨rfl, y3, rfl⟩)
        | (go_at_call 86; go_loud (refine (setLoc_l (((hl.alloc _).ext y3).alloc _) _ _ n n0 (by omega) (by simp [go_sem]) (by simp [go_sem]) (.pointer none) (by simp [go_sem])).mono ?_; rintro e w1 ⟨rfl, rfl⟩)))
      exact bodyPost_ret (v := tv n (T - o2 + 62135596800) p) (by simp [results, Tryz.results165, go_sem]) rfl
        ⟨rfl, y3.fin (Nat.le_refl _) (Nat.le_refl _) (Nat.le_refl _)⟩
    · skip
      have HU := Lib.hid (fun o (y : Ext (w.alloc o)) => calls_ext (x := y) (to_ext (unixTime_any (T - o2) n y.now (by omega) (by omega) n0 n1)))
      skip
      clear hT hn hD
      go_enter Tryz.func165, Tryz.ntmps165
      go_wp2_with (first
        | (go_at_call 180; first
          | ((with_reducible refine (HN.out _).mono ?_); rintro e w1 ⟨rfl, rfl⟩)
          | ((with_reducible refine (HN1.out _).mono ?_); rintro e w1 ⟨rfl, rfl⟩)
          | ((with_reducible refine (HN2.out _).mono ?_); rintro e w1 ⟨rfl, rfl⟩)
          | ((with_reducible refine (HN3.out _).mono ?_); rintro e w1 ⟨rfl, rfl⟩)
          | ((with_reducible refine (HN4.out _).mono ?_); rintro e w1 ⟨rfl, rfl⟩))
        | (go_at_call 181; (with_reducible refine (HA.out _).mono ?_); rintro e w1 ⟨rfl, rfl⟩)
        | (go_at_call 182; first | (rw [HW.out]; (with_reducible refine (HL.out _).mono ?_); rintro e w1 ⟨⟨nm, dst, rfl⟩, y, rfl⟩) | ((with_reducible refine (HL2.out _ _).mono ?_); rintro e w1 ⟨⟨nm2, dst2, rfl⟩, y4, rfl⟩))
        | (go_at_call 85; (with_reducible refine (HU.out _ _).mono ?_); rintro e w1 ⟨rfl, y3, rfl⟩)
        | (go_at_call 86; go_loud (refine (setLoc_l (((hl.alloc _).ext y3).alloc _) _ _ n n0 (by omega) (by simp [go_sem]) (by simp [go_sem]) (.pointer none) (by simp [go_sem])).mono ?_; rintro e w1 ⟨rfl, rfl⟩)))
      all_goals exact bodyPost_ret (v := tv n (T - o2 + 62135596800) p) (by simp [results, Tryz.results165, go_sem]) rfl ⟨rfl, y3.fin (Nat.le_refl _) (Nat.le_refl _) (Nat.le_refl _)⟩
  · rw [c4]
    generalize z.off T = o1 at *
    generalize z.w (z.idx T) = w1 at *
    generalize endv z (z.idx T + 1) = e1 at *
    · skip
      have HU := Lib.hid (fun o (y : Ext (w.alloc o)) => calls_ext (x := y) (to_ext (unixTime_any (T - o1) n y.now (by omega) (by omega) n0 n1)))
      skip
      clear hT hn hD
      go_enter Tryz.func165, Tryz.ntmps165
      go_wp2_with (first
        | (go_at_call 180; first
          | ((with_reducible refine (HN.out _).mono ?_); rintro e w1 ⟨rfl, rfl⟩)
          | ((with_reducible refine (HN1.out _).mono ?_); rintro e w1 ⟨rfl, rfl⟩)
          | ((with_reducible refine (HN2.out _).mono ?_); rintro e w1 ⟨rfl, rfl⟩)
          | ((with_reducible refine (HN3.out _).mono ?_); rintro e w1 ⟨rfl, rfl⟩)
          | ((with_reducible refine (HN4.out _).mono ?_); rintro e w1 ⟨rfl, rfl⟩))
        | (go_at_call 181; (with_reducible refine (HA.out _).mono ?_); rintro e w1 ⟨rfl, rfl⟩)
        | (go_at_call 182; rw [HW.out]; (with_reducible refine (HL.out _).mono ?_); rintro e w1 ⟨⟨nm, dst, rfl⟩, y, rfl⟩)
        | (go_at_call 85; (with_reducible refine (HU.out _ _).mono ?_); rintro e w1 ⟨rfl, y3, rfl⟩)
        | (go_at_call 86; go_loud (refine (setLoc_l (((hl.alloc _).ext y3).alloc _) _ _ n n0 (by omega) (by simp [go_sem]) (by simp [go_sem]) (.pointer none) (by simp [go_sem])).mono ?_; rintro e w1 ⟨rfl, rfl⟩)))
      exact bodyPost_ret (v := tv n (T - o1 + 62135596800) p) (by simp [results, Tryz.results165, go_sem]) rfl
        ⟨rfl, y3.fin (Nat.le_refl _) (Nat.le_refl _) (Nat.le_refl _)⟩

end Go.Proofs.YtopcjlimjkfoiaaGreatDoor
namespace Go.Proofs.YtopcjlimjkfoiaaGreatDoor
open Go Go.RowKit

section
variable {P : Program} {ops : Array Oper} {md : Region.Mode} {C : World → Prop} {Q : Exit → Act → World → Prop}

def wpAnyT (P : Program) (md : Region.Mode) (ops : Array Oper) (Q : Exit → Act → World → Prop) (C : World → Prop) (n : Nat) (L : Array Bool → Act → World → Prop) : Nat → Array Bool → Act → World → Prop
  | 0, listed, a, w => C w ∧ L listed a w
  | f + 1, listed, a, w =>
    C w ∧ Region.ready md ops listed ≠ [] ∧ ∀ i ∈ Region.ready md ops listed, i < n ∧ wpOp P ops Q i (wpAnyT P md ops Q C n L f (listed.setIfInBounds i true)) a w

theorem wpAny_of_headT {n g : Nat} {L : Array Bool → Act → World → Prop} (hL : ∀ listed a w, L listed a w → wpAny P md ops Q g listed a w) :
    ∀ (f : Nat) (listed : Array Bool) (a : Act) (w : World), wpAnyT P md ops Q C n L f listed a w → wpAny P md ops Q (f + g) listed a w
  | 0, listed, a, w, h => by rw [Nat.zero_add]; exact hL _ _ _ h.2
  | f + 1, listed, a, w, h => by
    rw [show f + 1 + g = (f + g) + 1 by omega]
    exact ⟨fun h0 => absurd h0 h.2.1, fun i hi => wpOp_mono (fun a' w' h' => wpAny_of_headT hL f _ a' w' h') (h.2.2 i hi).2⟩

theorem wpAnyT_first {n i : Nat} {oi : Oper} {v : Value} {L : Array Bool → Act → World → Prop} (hi : ops[i]? = some oi) (hsel : ∀ (j : Nat) (o : Oper) cs b, ops[j]? = some o → o.op ≠ .select cs b)
    (hQ : ∀ c a w, Q (.panic c) (a.put oi.dst v) w → Q (.panic c) a w)
    (hs : Region.sinkB md ops n = true) (hc : Region.chainB md ops n = true) (hn : n < ops.size) (hin : i < n)
    (hdone : ∀ listed a w, L listed a w → ∀ j ∈ Region.ready md ops listed, n ≤ j) :
    ∀ (f : Nat) (listed : Array Bool) (a : Act) (w : World), HeadInv md ops n listed →
      (∀ j oj, ops[j]? = some oj → j ≠ i → listed.getD j true = false → (∀ e ∈ oj.after, Region.binds md e = true → e.on ≠ i) → oi.apart ops oj = true) →
      i ∈ Region.ready md ops listed → YieldsIf P ops C oi v a → C w →
      wpAnyT P md ops Q C n L f (listed.setIfInBounds i true) (a.put oi.dst v) w → wpAnyT P md ops Q C n L (f + 1) listed a w := by
  intro f
  induction f with
  | zero =>
    intro listed a w inv _ hr hy hC H
    have hun := (mem_ready.1 hr).1
    refine ⟨hC, fun h => (by rw [h] at hr; cases hr), fun j hj => ?_⟩
    have hjn : j < n := by
      rcases Nat.lt_or_ge j n with h | h
      · exact h
      · exact absurd hj (tail_waits hs hc hn inv _ i rfl hin hun j h)
    refine ⟨hjn, ?_⟩
    by_cases hji : j = i
    · subst hji; exact hy.wpOp hi hC H
    · have := hdone _ _ _ H.2 j (ready_mono hj hji)
      omega
  | succ f ih =>
    intro listed a w inv hfree hr hy hC H
    have hun := (mem_ready.1 hr).1
    refine ⟨hC, fun h => (by rw [h] at hr; cases hr), fun j hj => ?_⟩
    have hjn : j < n := by
      rcases Nat.lt_or_ge j n with h | h
      · exact h
      · exact absurd hj (tail_waits hs hc hn inv _ i rfl hin hun j h)
    refine ⟨hjn, ?_⟩
    by_cases hji : j = i
    · subst hji; exact hy.wpOp hi hC H
    · have h1 := (H.2.2 j (ready_mono hj hji)).2
      obtain ⟨hjun, oj, hoj, hall⟩ := mem_ready.1 hj
      have hnot : ∀ e ∈ oj.after, Region.binds md e = true → e.on ≠ i := fun e he hb heq => by
        have h1 := hall e he hb
        rw [heq, getD_both hun] at h1
        cases h1
      have h2 := wpOp_putIf hoj (hfree j oj hoj hji hjun hnot) (fun cs b => hsel i oi cs b hi) (fun cs b => hsel j oj cs b hoj) hQ hy h1
      have hfree' : ∀ k ok, ops[k]? = some ok → k ≠ i → (listed.setIfInBounds j true).getD k true = false →
          (∀ e ∈ ok.after, Region.binds md e = true → e.on ≠ i) → oi.apart ops ok = true := fun k ok hk hki hun hno => by
        refine hfree k ok hk hki ?_ hno
        by_cases hjk : j = k
        · subst hjk; exact hjun
        · rw [getD_set_ne true hjk] at hun; exact hun
      refine wpOp_mono (fun a' w' h3 => ih (listed.setIfInBounds j true) a' w' (inv.set hj hjn) hfree' (ready_mono hr (Ne.symm hji)) h3.1 ?_ ?_) h2
      · cases f with
        | zero => exact h3.2.1
        | succ f => exact h3.2.1
      · rw [Array.setIfInBounds_comm _ _ hji]
        exact h3.2

def readUpon (w : World) (v : Value) : Result Next → Prop
  | .ok (.value u) w' => w' = w ∧ u = v
  | _ => False

def readAt (P : Program) (o : Oper) (a : Act) (w : World) (v : Value) : Prop := readUpon w v ((execOp a.eval o).run P w)

theorem readAt_run {o : Oper} {a : Act} {w : World} {v : Value} (h : readAt P o a w v) : (execOp a.eval o).run P w = .ok (.value v) w := by
  unfold readAt at h
  generalize (execOp a.eval o).run P w = r at *
  cases r with
  | ok x w' => cases x <;> simp only [readUpon] at h; rw [h.1, h.2]
  | halt x w' => simp only [readUpon] at h

def wpPlan (P : Program) (ops : Array Oper) (C : World → Prop) (Q : Exit → Act → World → Prop) (L : Act → World → Prop) : List (Nat × Bool) → Act → World → Prop
  | [], a, w => L a w
  | (i, false) :: r, a, w =>
    match ops[i]? with
    | none => False
    | some o => if Region.wanted o (yielded ops a.tmps) then ∃ v, (∀ w, C w → readAt P o a w v) ∧ wpPlan P ops C Q L r (a.put o.dst v) w else wpPlan P ops C Q L r (a.put o.dst undef) w
  | (i, true) :: r, a, w =>
    match ops[i]? with
    | none => False
    | some o => if Region.wanted o (yielded ops a.tmps) then o.wp P a w (fun a' w' => C w' ∧ wpPlan P ops C Q L r a' w') Q else wpPlan P ops C Q L r (a.put o.dst undef) w

theorem plan_read {L : Act → World → Prop} {i : Nat} {r : List (Nat × Bool)} {a : Act} {w : World} {o : Oper} (ho : ops[i]? = some o)
    (h : ∀ K : Act → Prop, (∀ a, wpPlan P ops C Q L r a w → K a) → if Region.wanted o (yielded ops a.tmps) then ∃ v, (∀ w, C w → readAt P o a w v) ∧ K (a.put o.dst v) else K (a.put o.dst undef)) :
    wpPlan P ops C Q L ((i, false) :: r) a w := by
  unfold wpPlan
  simp only [ho]
  exact h _ (fun _ h => h)

theorem plan_step {L : Act → World → Prop} {i : Nat} {r : List (Nat × Bool)} {a : Act} {w : World} {o : Oper} (ho : ops[i]? = some o)
    (h : ∀ K : Act → World → Prop, (∀ a w, C w → wpPlan P ops C Q L r a w → K a w) → if Region.wanted o (yielded ops a.tmps) then o.wp P a w K Q else C w ∧ wpPlan P ops C Q L r (a.put o.dst undef) w) :
    wpPlan P ops C Q L ((i, true) :: r) a w := by
  unfold wpPlan
  simp only [ho]
  have := h (fun a' w' => C w' ∧ wpPlan P ops C Q L r a' w') (fun _ _ h1 h2 => ⟨h1, h2⟩)
  split
  · rename_i hw; simpa [hw] using this
  · rename_i hw; simp only [hw] at this; exact this.2

theorem plan_nil {L : Act → World → Prop} {a : Act} {w : World} (h : L a w) : wpPlan P ops C Q L [] a w := h

def planB (md : Region.Mode) (ops : Array Oper) (n g : Nat) : List (Nat × Bool) → Array Bool → Bool
  | [], listed => Region.seqB md ops g n listed
  | (i, false) :: r, listed => decide (i < n) && (Region.ready md ops listed).contains i && Region.free md ops listed i && planB md ops n g r (listed.setIfInBounds i true)
  | (i, true) :: r, listed => decide (i < n) && decide (Region.ready md ops listed = [i]) && planB md ops n g r (listed.setIfInBounds i true)

def planOk (md : Region.Mode) (ops : Array Oper) (n : Nat) (plan : List (Nat × Bool)) : Bool :=
  Region.noSelect ops && decide (n < ops.size) && decide (plan.length = n) && Region.sinkB md ops n && Region.chainB md ops n && planB md ops n (ops.size - n) plan (Array.replicate ops.size false)

theorem wpAnyT_plan {n g : Nat} {L : Act → World → Prop} (hsel : Region.noSelect ops = true) (hQ : ∀ c a (d : Option Tmp) (v : Value) w, Q (.panic c) (a.put d v) w → Q (.panic c) a w)
    (hs : Region.sinkB md ops n = true) (hc : Region.chainB md ops n = true) (hn : n < ops.size) :
    ∀ (plan : List (Nat × Bool)) (listed : Array Bool) (a : Act) (w : World), HeadInv md ops n listed → planB md ops n g plan listed = true → C w → wpPlan P ops C Q L plan a w →
      wpAnyT P md ops Q C n (fun listed' a' w' => Region.seqB md ops g n listed' = true ∧ L a' w') plan.length listed a w
  | [], listed, a, w, _, hB, hC, h => ⟨hC, by simpa [planB] using hB, h⟩
  | (i, false) :: r, listed, a, w, inv, hB, hC, h => by
    simp only [planB, Bool.and_eq_true, decide_eq_true_eq] at hB
    obtain ⟨⟨⟨hin, hr⟩, hf⟩, hB'⟩ := hB
    have hr' : i ∈ Region.ready md ops listed := by simpa using hr
    unfold wpPlan at h
    cases hi : ops[i]? with
    | none => simp only [hi] at h
    | some o =>
      simp only [hi] at h
      have hex : ∃ v, YieldsIf P ops C o v a ∧ wpPlan P ops C Q L r (a.put o.dst v) w := by
        by_cases hw : Region.wanted o (yielded ops a.tmps) = true
        · simp only [hw, if_true] at h
          obtain ⟨v, h1, h2⟩ := h
          exact ⟨v, .inl ⟨hw, fun w' hw' => readAt_run (h1 w' hw')⟩, h2⟩
        · simp only [hw] at h
          exact ⟨undef, .inr ⟨by simpa using hw, rfl⟩, h⟩
      obtain ⟨v, hy, hK⟩ := hex
      exact wpAnyT_first hi (Region.noSelect_spec hsel) (fun c a w => hQ c a _ _ w) hs hc hn hin (fun listed' a' w' hL => seqB_ready hL.1) r.length listed a w inv (Region.free_spec hi hf) hr' hy hC
        (wpAnyT_plan hsel hQ hs hc hn r _ _ _ (inv.set hr' hin) hB' hC hK)
  | (i, true) :: r, listed, a, w, inv, hB, hC, h => by
    simp only [planB, Bool.and_eq_true, decide_eq_true_eq] at hB
    obtain ⟨⟨hin, hr⟩, hB'⟩ := hB
    have hr' : i ∈ Region.ready md ops listed := by rw [hr]; simp
    refine ⟨hC, fun h0 => (by rw [h0] at hr; cases hr), fun j hj => ?_⟩
    rw [hr] at hj
    have hji : j = i := by simpa using hj
    subst hji
    refine ⟨hin, ?_⟩
    unfold wpPlan at h
    unfold wpOp
    cases hi : ops[j]? with
    | none => simp only [hi] at h
    | some o =>
      simp only [hi] at h ⊢
      split
      · rename_i hw
        simp only [hw, if_true] at h
        refine .inl (Oper.wp_mono (fun a' w' h' => ?_) h)
        exact wpAnyT_plan hsel hQ hs hc hn r _ _ _ (inv.set hr' hin) hB' h'.1 h'.2
      · rename_i hw
        simp only [hw] at h
        exact wpAnyT_plan hsel hQ hs hc hn r _ _ _ (inv.set hr' hin) hB' hC h

theorem wp_region_plan {id : Nat} {a : Act} {w : World} {l : List Oper} (n : Nat) (plan : List (Nat × Bool)) (C : World → Prop) (hm : P.follows .mixedOrders = true) (hB : planOk .any l.toArray n plan = true)
    (hQ : ∀ c a (d : Option Tmp) (v : Value) w, Q (.panic c) (a.put d v) w → Q (.panic c) a w) (hC : C w.drew)
    (h : wpPlan P l.toArray C Q (wpList P l.toArray Q (l.drop n)) plan a w.drew) : (Code.region id l.toArray true).wp P Q a w := by
  simp only [planOk, Bool.and_eq_true, decide_eq_true_eq] at hB
  obtain ⟨⟨⟨⟨⟨hsel, hn⟩, hlen⟩, hs⟩, hc⟩, hplan⟩ := hB
  have hdl : (l.drop n).length = l.toArray.size - n := by simp
  have inv0 : HeadInv .any l.toArray n (Array.replicate l.toArray.size false) :=
    ⟨by simp, fun j oj _ hl => (by rw [getD_replicate_false] at hl; cases hl), fun t _ ht => getD_in (by simpa using ht) (getD_replicate_false _ _)⟩
  have H := wpAnyT_plan (md := .any) (g := l.toArray.size - n) hsel hQ hs hc hn plan _ a w.drew inv0 hplan hC h
  refine wp_region_any hm ?_
  have := wpAny_of_headT (Q := Q) (g := l.toArray.size - n) (fun listed a' w' hL => by
    have := wpAny_of_seq (md := .any) (Q' := Q) (l.drop n) n listed a' w' (fun j => by simp [List.getElem?_drop]) (by rw [hdl]; exact hL.1) hL.2
    rwa [hdl] at this) _ _ _ _ H
  have hn' : n < l.length := by simpa using hn
  rw [hlen, show n + (l.toArray.size - n) = l.toArray.size by simp; omega] at this
  exact this

end
attribute [go_sem] readAt readUpon
end Go.Proofs.YtopcjlimjkfoiaaGreatDoor
