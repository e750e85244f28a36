/-
FnCronTextAfterRoads: the calendar, the schedules, their texts and the zones, part 3 of 34.
-/
import Derived.Test.YtopcjlimjkfoiaaGreatDoorV02
import Derived.Test.YtopcjlimjkfoiaaGreatDoorV01
import Derived.Laws.BitsAllLaws
import Derived.Lib.Hide
import Derived.Scope
set_option linter.all false
namespace Go.Cal

theorem day_le (D : Nat) : dayD D ≤ 31 := by
  obtain ⟨k, p⟩ := parts D
  have := (mon_ok (ayd D) p.ha).2.1
  unfold dayD
  omega

set_option maxRecDepth 100000 in
theorem start_ends {p : Par} (hz : Plain p.z) (t : Int) (h : -1000000000000 ≤ t) (hT : t ≤ 86400 * (firstD (p.lim + 1) 1 : Int) + 172800 - C0) : p.Ends (86400 * (firstD (p.lim + 1) 1 : Int) + 172800 - C0) ⟨.wr, t, false⟩ := by
  have hA := hz.at_any t h
  have c := c0_eq
  obtain ⟨D, hD⟩ : ∃ D, D = dayN p.z t := ⟨_, rfl⟩
  obtain ⟨s, hs⟩ : ∃ s, s = sod p.z t := ⟨_, rfl⟩
  rw [← hD, ← hs] at hA
  have hbd := hz.bd' t
  have hloc : p.z.loc t = t + p.z.off t := rfl
  have l1 := hA.loc; have l2 := hA.s0; have l3 := hA.s1
  have hbig : 106740000000100 ≤ D := by omega
  have ey : yr p.z t = yearD D := by unfold yr; rw [hD]
  have em : mo p.z t = monD D := by unfold mo; rw [hD]
  have ed : dy p.z t = dayD D := by unfold dy; rw [hD]
  have ew : wd p.z t = wdD D := by unfold wd wdD; rw [hD]
  have eh : hr p.z t = (s / 3600).toNat := by unfold hr; rw [hs]
  have ei : mi p.z t = (s % 3600 / 60).toNat := by unfold mi; rw [hs]
  have hfd := first_day D
  have hdl := day_le D
  have hd1 : 1 ≤ dayD D := by unfold dayD; omega
  obtain ⟨m1, m2, _⟩ := mon_range D
  by_cases hy : p.lim < yr p.z t
  · exact .of_end (by show -2000000000000000 ≤ t; omega) hT (r := none) (by unfold Par.step; simp only [if_pos hy])
  refine .of_step (by show -2000000000000000 ≤ t; omega) hT True.intro (s' := ⟨.mo, t, false⟩) (by unfold Par.step; simp only [if_neg hy]) ?_
  have hy2 : yearD D ≤ p.lim := by omega
  cases hm : p.hMo (mo p.z t) with
  | false =>
    obtain ⟨D1, hD1⟩ : ∃ D1, D1 = firstD (yearD D) (monD D) := ⟨_, rfl⟩
    obtain ⟨r1, r2, r3⟩ := first_read (yearD D) (monD D) (year_pos D (by omega)) m1 m2
    rw [← hD1] at r1 r2 r3
    have e : p.first t = dateU p.z (D1 : Int) 0 := by unfold Par.first; rw [ey, em, hD1]
    have hA1 : At p.z (p.first t) D1 0 := by rw [e]; exact hz.dateM (by omega)
    obtain ⟨_, b⟩ := month_on hz hA1 r3 (by rw [r1]; exact hy2)
    exact .of_step (by show -2000000000000000 ≤ t; omega) hT True.intro (by unfold Par.step; simp only [hm]; rfl) (good_end hz b)
  | true =>
  refine .of_step (by show -2000000000000000 ≤ t; omega) hT True.intro (s' := ⟨.dy, t, false⟩) (by unfold Par.step; simp only [hm, if_true]) ?_
  have hm2 : p.hMo (monD D) = true := by rw [← em]; exact hm
  cases hd : p.hDy (dy p.z t) (wd p.z t) with
  | false =>
    have e : p.mid t = dateU p.z (D : Int) 0 := by unfold Par.mid; rw [ey, em, ed]; congr 1; omega
    have hA1 : At p.z (p.mid t) D 0 := by rw [e]; exact hz.dateM (by omega)
    obtain ⟨_, c, b⟩ := day_on hz hA1 hm2 hy2
    exact .of_step (by show -2000000000000000 ≤ t; omega) hT (fun _ => c) (by unfold Par.step; simp only [hd]; rfl) (good_end hz b)
  | true =>
  refine .of_step (by show -2000000000000000 ≤ t; omega) hT (fun q => by rw [hd] at q; cases q) (s' := ⟨.hr, t, false⟩) (by unfold Par.step; simp only [hd, if_true]) ?_
  have hd2 : p.hDy (dayD D) (wdD D) = true := by rw [← ed, ← ew]; exact hd
  cases hh : p.hHr (hr p.z t) with
  | false =>
    have hf := hz.floorHour t (by omega)
    have hA0 : At p.z (t - p.z.loc t % 3600) D (3600 * (s / 3600)) := ⟨by omega, by omega, by omega, by omega⟩
    have e : p.hour t = dateU p.z (D : Int) (3600 * (s / 3600)) := by unfold Par.hour; rw [ey, em, ed, ← hs]; congr 1; omega
    have hA1 : At p.z (p.hour t) D (3600 * (s / 3600)) := by rw [e]; exact hz.dateU hA0
    exact .of_step (by show -2000000000000000 ≤ t; omega) hT True.intro (by unfold Par.step; simp only [hh]; rfl) (good_end hz (hour_on hz hA1 (by omega) hm2 hd2 hy2))
  | true =>
  refine .of_step (by show -2000000000000000 ≤ t; omega) hT True.intro (s' := ⟨.mi, t, false⟩) (by unfold Par.step; simp only [hh, if_true]) ?_
  have hh2 : p.hHr (s / 3600).toNat = true := by rw [← eh]; exact hh
  cases hi : p.hMi (mi p.z t) with
  | false =>
    obtain ⟨f1, f2⟩ := hz.floorMin t (by omega)
    have hA1 : At p.z (t - t % 60) D (s - s % 60) := ⟨by omega, by omega, by omega, by omega⟩
    exact .of_step (by show -2000000000000000 ≤ t; omega) hT True.intro (by unfold Par.step; simp only [hi]; rfl) (good_end hz (minute_on hz hA1 (by omega) hm2 hd2 (by rw [show (s - s % 60) / 3600 = s / 3600 by omega]; exact hh2) hy2))
  | true =>
  refine .of_step (by show -2000000000000000 ≤ t; omega) hT True.intro (s' := ⟨.sc, t, false⟩) (by unfold Par.step; simp only [hi, if_true]) ?_
  have hi2 : p.hMi (s % 3600 / 60).toNat = true := by rw [← ei]; exact hi
  cases hs2 : p.hSc (sc p.z t) with
  | true => exact .of_end (by show -2000000000000000 ≤ t; omega) hT (r := some t) (by unfold Par.step; simp only [hs2, if_true])
  | false => exact .of_step (by show -2000000000000000 ≤ t; omega) hT True.intro (by unfold Par.step; simp only [hs2]; rfl) (good_end hz (second_on hz hA hm2 hd2 hh2 hi2 hy2))

end Go.Cal
namespace Go.Proofs.YtopcjlimjkfoiaaGreatDoor
open Go.RowKit Go.Cal

theorem wraps_u32 (n : Int) (h₀ : 0 ≤ n) (h₁ : n < 2 ^ 32) : IntKind.u32.wrap n = n := by
  simp [IntKind.wrap, IntKind.bits, IntKind.signed]
  omega

set_option maxRecDepth 100000 in
theorem days_any (a : Int) (w : World) (h0 : 0 ≤ a) (h1 : a < 18446744073709551616) :
    Calls Tryz.prog 173 #[.int .u64 a] w fun e w' => e = .returned (.int .u64 (a / 86400)) ∧ w' = w := by
  go_enter Tryz.func173, Tryz.ntmps173
  go_wp2
  go_ret
  exact ⟨rfl, rfl⟩

set_option maxRecDepth 100000 in
theorem mul32_any (a b : Nat) (w : World) (a1 : a < 4294967296) (b1 : b < 4294967296) (h : a * b < 18446744073709551616) :
    Calls Tryz.prog 188 #[.int .u32 a, .int .u32 b] w fun e w' => e = .returned (.tuple #[.int .u32 (a * b / 4294967296 : Nat), .int .u32 (a * b % 4294967296 : Nat)]) ∧ w' = w := by
  obtain ⟨m, hm⟩ : ∃ m, m = a * b := ⟨_, rfl⟩
  rw [← hm] at h ⊢
  have hw : IntKind.u64.wrap ((a : Int) * (b : Int)) = (m : Int) := by
    rw [show (a : Int) * (b : Int) = ((a * b : Nat) : Int) by simp, ← hm]
    exact wraps_u64 _ (by omega) (by omega)
  have e1 : ((m / 4294967296 : Nat) : Int) = (m : Int) / 4294967296 := by omega
  have e2 : ((m % 4294967296 : Nat) : Int) = (m : Int) % 4294967296 := by omega
  rw [e1, e2]
  clear e1 e2 hm
  go_enter Tryz.func188, Tryz.ntmps188
  go_wp2
  go_ret2
  exact ⟨rfl, rfl⟩

theorem cd_or (D : Nat) : bits .or .u32 ((4 * (D : Int) + 3) % 146097) 3 = ((cdw D : Nat) : Int) := by
  have h := u32_or_nat ((4 * D + 3) % 146097) 3 (by omega) (by omega)
  rw [show (((4 * D + 3) % 146097 : Nat) : Int) = (4 * (D : Int) + 3) % 146097 by omega] at h
  exact h

theorem cdw_lt (D : Nat) : cdw D < 146100 := by
  unfold cdw
  rw [or3 _ (by omega)]
  omega

set_option maxRecDepth 100000 in
theorem split_any (D : Nat) (w : World) (h1 : D < 1000000000000000000) :
    Calls Tryz.prog 174 #[.int .u64 D] w fun e w' => e = .returned (.tuple #[.int .u64 (cen D : Nat), .int .i64 (cyr D : Nat), .int .i64 (ayd D : Nat)]) ∧ w' = w := by
  have hc := cdw_lt D
  have hor := cd_or D
  have H0 : Calls Tryz.prog 188 #[.int .u32 2939745, .int .u32 (cdw D)] w _ := mul32_any 2939745 (cdw D) w (by omega) (by omega) (by omega)
  have H := Lib.hid H0
  clear H0
  have e1 : ((cen D : Nat) : Int) = (4 * (D : Int) + 3) / 146097 := by unfold cen; omega
  have e2 : cyr D = 2939745 * cdw D / 4294967296 := rfl
  have e3 : ayd D = 2939745 * cdw D % 4294967296 / 2939745 / 4 := rfl
  obtain ⟨x, hx⟩ : ∃ x, x = 2939745 * cdw D / 4294967296 := ⟨_, rfl⟩
  obtain ⟨y, hy⟩ : ∃ y, y = 2939745 * cdw D % 4294967296 := ⟨_, rfl⟩
  rw [← hx, ← hy] at H
  rw [e1, e2, e3, ← hx, ← hy]
  have e4 : ((y / 2939745 / 4 : Nat) : Int) = (y : Int) / 2939745 / 4 := by omega
  rw [e4]
  have hy2 : y < 4294967296 := by omega
  have hx2 : x < 4294967296 := by omega
  clear e1 e2 e3 e4 hx hy
  go_enter Tryz.func174, Tryz.ntmps174
  go_wp2_with (first | (go_at_call 188; go_loud ((with_reducible refine H.out.mono ?_); rintro e w1 ⟨rfl, rfl⟩)))
  exact bodyPost_ret (v := .tuple #[.int .u64 ((4 * (D : Int) + 3) / 146097), .int .i64 x, .int .i64 ((y : Int) / 2939745 / 4)]) (by simp [results, Tryz.results174, go_sem]) rfl ⟨rfl, rfl⟩

set_option maxRecDepth 100000 in
theorem msplit_any (a : Nat) (w : World) (h1 : a < 366) :
    Calls Tryz.prog 175 #[.int .i64 a] w fun e w' => e = .returned (.tuple #[.int .i64 (amonOf a : Nat), .int .i64 (1 + mdayOf a : Nat)]) ∧ w' = w := by
  have hand : bits .and .u32 (2141 * (a : Int) + 197913) 65535 = (((2141 * a + 197913) % 65536 : Nat) : Int) := by
    have := bits_mask .u32 32 (by decide) wraps_u32 16 (by decide) (2141 * (a : Int) + 197913) (by omega) (by omega)
    have e : (2 : Int) ^ 16 - 1 = 65535 := by decide
    rw [e] at this
    rw [this]
    omega
  obtain ⟨m, hm⟩ : ∃ m, m = (2141 * a + 197913) % 65536 := ⟨_, rfl⟩
  rw [← hm] at hand
  have e1 : ((amonOf a : Nat) : Int) = (2141 * (a : Int) + 197913) / 65536 := by unfold amonOf; omega
  have e2 : ((1 + mdayOf a : Nat) : Int) = 1 + (m : Int) / 2141 := by unfold mdayOf; omega
  rw [e1, e2]
  have hm2 : m < 65536 := by omega
  clear e1 e2 hm
  go_enter Tryz.func175, Tryz.ntmps175
  go_wp2
  go_ret2
  exact ⟨rfl, rfl⟩

set_option maxRecDepth 100000 in
theorem janFeb_any (a : Nat) (w : World) (h1 : a < 366) :
    Calls Tryz.prog 177 #[.int .i64 a] w fun e w' => e = .returned (.int .i64 (if 306 ≤ a then 1 else 0 : Nat)) ∧ w' = w := by
  by_cases h : 306 ≤ a
  · rw [if_pos h]
    have h' : (306 : Int) ≤ (a : Int) := by omega
    go_enter Tryz.func177, Tryz.ntmps177
    go_wp2
    go_ret
    exact ⟨rfl, rfl⟩
  · rw [if_neg h]
    have h' : ¬ (306 : Int) ≤ (a : Int) := by omega
    go_enter Tryz.func177, Tryz.ntmps177
    go_wp2
    go_ret
    exact ⟨rfl, rfl⟩

set_option maxRecDepth 100000 in
theorem year_any (c cy j : Nat) (w : World) (h1 : c * 100 < 1000000000000) (h2 : cy < 100) (h3 : j ≤ 1) :
    Calls Tryz.prog 178 #[.int .u64 c, .int .i64 cy, .int .i64 j] w fun e w' => e = .returned (.int .i64 ((c * 100 + cy + j : Nat) - 292277022400)) ∧ w' = w := by
  have e1 : (((c * 100 + cy + j : Nat) : Int) - 292277022400) = (c : Int) * 100 - 292277022400 + cy + j := by omega
  rw [e1]
  clear e1
  have hw : IntKind.i64.wrap (IntKind.u64.wrap ((c : Int) * 100 - 292277022400)) = (c : Int) * 100 - 292277022400 := by
    simp [IntKind.wrap, IntKind.bits, IntKind.signed]
    omega
  go_enter Tryz.func178, Tryz.ntmps178
  go_wp2
  go_ret
  exact ⟨rfl, rfl⟩

set_option maxRecDepth 100000 in
theorem month_any (m j : Nat) (w : World) (h1 : m < 100) (h3 : j ≤ 1) (h : 12 * j ≤ m) :
    Calls Tryz.prog 179 #[.int .i64 m, .int .i64 j] w fun e w' => e = .returned (.int .i64 (m - 12 * j : Nat)) ∧ w' = w := by
  have e1 : ((m - 12 * j : Nat) : Int) = (m : Int) - (j : Int) * 12 := by omega
  rw [e1]
  clear e1
  go_enter Tryz.func179, Tryz.ntmps179
  go_wp2
  go_ret
  exact ⟨rfl, rfl⟩

set_option maxRecDepth 100000 in
theorem weekday_any (D : Nat) (w : World) (h1 : D < 1000000000000000000) :
    Calls Tryz.prog 192 #[.int .u64 D] w fun e w' => e = .returned (.int .i64 (wdD D : Nat)) ∧ w' = w := by
  have e1 : ((wdD D : Nat) : Int) = ((D : Int) + 3) % 7 := by unfold wdD; omega
  rw [e1]
  clear e1
  go_enter Tryz.func192, Tryz.ntmps192
  go_wp2
  go_ret
  exact ⟨rfl, rfl⟩

end Go.Proofs.YtopcjlimjkfoiaaGreatDoor
namespace Go.Proofs.YtopcjlimjkfoiaaGreatDoor
open Go.RowKit Go.Cal

set_option maxRecDepth 100000 in
theorem date_any (D : Nat) (w : World) (h1 : D < 200000000000000) :
    Calls Tryz.prog 190 #[.int .u64 D] w fun e w' => e = .returned (.tuple #[.int .i64 ((yearD D : Nat) - 292277022400), .int .i64 (monD D : Nat), .int .i64 (dayD D : Nat)]) ∧ w' = w := by
  obtain ⟨k, hp⟩ := parts D
  have ha : ayd D < 366 := hp.ha
  have hcy : cyr D < 100 := hp.hcy
  have hj : jfb D ≤ 1 := jf_le D
  have hmo := (a_ok (ayd D) ha (jfb D) rfl).2.2.2.1
  have hm15 := (a_ok (ayd D) ha (jfb D) rfl).2.1
  have Hs := Lib.hid (split_any D w (by omega))
  have Hm := Lib.hid (msplit_any (ayd D) w ha)
  have Hj := Lib.hid (janFeb_any (ayd D) w ha)
  have Hy := Lib.hid (year_any (cen D) (cyr D) (jfb D) w (by unfold cen; omega) hcy hj)
  have Ho := Lib.hid (month_any (amonOf (ayd D)) (jfb D) w (by omega) hj (by omega))
  rw [show (if 306 ≤ ayd D then 1 else 0) = jfb D from rfl] at Hj
  rw [show yearD D = cen D * 100 + cyr D + jfb D from rfl, show monD D = amonOf (ayd D) - 12 * jfb D from rfl, show dayD D = 1 + mdayOf (ayd D) from rfl]
  generalize (((cen D * 100 + cyr D + jfb D : Nat) : Int) - 292277022400) = yv at Hy ⊢
  generalize amonOf (ayd D) - 12 * jfb D = mv at Ho ⊢
  generalize 1 + mdayOf (ayd D) = dv at Hm ⊢
  generalize amonOf (ayd D) = am at *
  generalize ayd D = ad at *
  generalize cyr D = cy at *
  generalize jfb D = jf at *
  generalize cen D = ce at *
  clear hmo hm15 hp
  go_enter Tryz.func190, Tryz.ntmps190
  go_wp2_with (first
    | (go_at_call 174; go_loud ((with_reducible refine Hs.out.mono ?_); rintro e w1 ⟨rfl, rfl⟩))
    | (go_at_call 175; go_loud ((with_reducible refine Hm.out.mono ?_); rintro e w1 ⟨rfl, rfl⟩))
    | (go_at_call 177; go_loud ((with_reducible refine Hj.out.mono ?_); rintro e w1 ⟨rfl, rfl⟩))
    | (go_at_call 178; go_loud ((with_reducible refine Hy.out.mono ?_); rintro e w1 ⟨rfl, rfl⟩))
    | (go_at_call 179; go_loud ((with_reducible refine Ho.out.mono ?_); rintro e w1 ⟨rfl, rfl⟩)))
  exact bodyPost_ret (v := .tuple #[.int .i64 yv, .int .i64 mv, .int .i64 dv]) (by simp [results, Tryz.results190, go_sem]) rfl ⟨rfl, rfl⟩

set_option maxRecDepth 100000 in
theorem clock_any (a : Int) (w : World) (h0 : 0 ≤ a) (h1 : a < 18446744073709551616) :
    Calls Tryz.prog 191 #[.int .u64 a] w fun e w' => e = .returned (.tuple #[.int .i64 (a % 86400 / 3600), .int .i64 (a % 86400 % 3600 / 60), .int .i64 (a % 60)]) ∧ w' = w := by
  obtain ⟨s, hs⟩ : ∃ s, s = a % 86400 := ⟨_, rfl⟩
  have e1 : s - s / 3600 * 3600 = s % 3600 := by omega
  have e2 : s % 3600 - s % 3600 / 60 * 60 = a % 60 := by omega
  have hs0 : 0 ≤ s := by omega
  have hs1 : s < 86400 := by omega
  rw [← hs]
  rw [← e2, ← e1]
  clear e1 e2
  go_enter Tryz.func191, Tryz.ntmps191
  go_wp2
  subst hs
  exact bodyPost_ret (v := .tuple #[.int .i64 (a % 86400 / 3600), .int .i64 ((a % 86400 - a % 86400 / 3600 * 3600) / 60), .int .i64 (a % 86400 - a % 86400 / 3600 * 3600 - (a % 86400 - a % 86400 / 3600 * 3600) / 60 * 60)]) (by simp [results, Tryz.results191, go_sem]) rfl ⟨rfl, rfl⟩

set_option maxRecDepth 100000 in
theorem norm_in (hi lo base : Int) (w : World) (h0 : 0 ≤ lo) (h1 : lo < base) (hb : base < 1000000000000) (g0 : -1000000000000 ≤ hi) (g1 : hi < 1000000000000) :
    Calls Tryz.prog 180 #[.int .i64 hi, .int .i64 lo, .int .i64 base] w fun e w' => e = .returned (.tuple #[.int .i64 hi, .int .i64 lo]) ∧ w' = w := by
  have k1 : ¬ lo < 0 := by omega
  have k2 : ¬ base ≤ lo := by omega
  go_enter Tryz.func180, Tryz.ntmps180
  go_wp2
  exact bodyPost_ret (v := .tuple #[.int .i64 hi, .int .i64 lo]) (by simp [results, Tryz.results180, go_sem]) rfl ⟨rfl, rfl⟩

set_option maxRecDepth 100000 in
theorem norm_12 (hi : Int) (w : World) (g0 : -1000000000000 ≤ hi) (g1 : hi < 1000000000000) :
    Calls Tryz.prog 180 #[.int .i64 hi, .int .i64 12, .int .i64 12] w fun e w' => e = .returned (.tuple #[.int .i64 (hi + 1), .int .i64 0]) ∧ w' = w := by
  go_enter Tryz.func180, Tryz.ntmps180
  go_wp2
  exact bodyPost_ret (v := .tuple #[.int .i64 (hi + 1), .int .i64 0]) (by simp [results, Tryz.results180, go_sem]) rfl ⟨rfl, rfl⟩

theorem firstD_int (Y M y m : Nat) (hy : Y - jfM M = y) (hm : M + 12 * jfM M = m) (h3 : 3 ≤ m) : ((firstD Y M : Nat) : Int) = 146097 * ((y : Int) / 100) / 4 + (1461 * ((y : Int) % 100) / 4 + (979 * (m : Int) - 2919) / 32) := by
  unfold firstD ydayOf
  rw [hy, hm, Int.natCast_add, Int.natCast_add]
  have a : ((146097 * (y / 100) / 4 : Nat) : Int) = 146097 * ((y : Int) / 100) / 4 := by omega
  have b : ((1461 * (y % 100) / 4 : Nat) : Int) = 1461 * ((y : Int) % 100) / 4 := by omega
  have c : (((979 * m - 2919) / 32 : Nat) : Int) = (979 * (m : Int) - 2919) / 32 := by omega
  rw [a, b, c]

set_option maxRecDepth 100000 in
theorem absDays_any (Y M : Nat) (d : Int) (w : World) (h1 : 1 ≤ M) (h2 : M ≤ 12) (g0 : 292277022401 ≤ Y) (g1 : Y < 1000000000000) (d0 : 1 ≤ d) (d1 : d < 1000000) :
    Calls Tryz.prog 181 #[.int .i64 ((Y : Int) - 292277022400), .int .i64 M, .int .i64 d] w fun e w' => e = .returned (.int .u64 ((firstD Y M : Nat) + (d - 1))) ∧ w' = w := by
  by_cases h : M < 3
  · have h' : (M : Int) < 3 := by omega
    have hj : jfM M = 1 := by unfold jfM; rw [if_pos h]
    obtain ⟨y, rfl⟩ : ∃ y, Y = y + 1 := ⟨Y - 1, by omega⟩
    rw [firstD_int (y + 1) M y (M + 12) (by rw [hj]; rfl) (by rw [hj]) (by omega)]
    obtain ⟨X, hX⟩ : ∃ X : Int, X = (((y + 1 : Nat) : Int) - 292277022400) := ⟨_, rfl⟩
    have e2 : X - 1 + 292277022400 = (y : Int) := by omega
    have x0 : 1 ≤ X := by omega
    have x1 : X < 1000000000000 := by omega
    rw [← hX]
    clear hX hj h g0
    have e3 : ((M + 12 : Nat) : Int) = (M : Int) + 12 := by omega
    rw [e3, ← e2]
    clear e2 e3
    go_enter Tryz.func181, Tryz.ntmps181
    go_wp2
    exact bodyPost_ret (v := .int .u64 (146097 * ((X - 1 + 292277022400) / 100) / 4 + (1461 * ((X - 1 + 292277022400) % 100) / 4 + (979 * ((M : Int) + 12) - 2919) / 32 + d - 1))) (by simp [results, Tryz.results181, go_sem]) rfl ⟨by congr 2; omega, rfl⟩
  · have h' : ¬ (M : Int) < 3 := by omega
    have hj : jfM M = 0 := by unfold jfM; rw [if_neg h]
    rw [firstD_int Y M Y M (by rw [hj]; rfl) (by rw [hj]; rfl) (by omega)]
    obtain ⟨X, hX⟩ : ∃ X : Int, X = ((Y : Int) - 292277022400) := ⟨_, rfl⟩
    have e2 : X + 292277022400 = (Y : Int) := by omega
    have x0 : 1 ≤ X := by omega
    have x1 : X < 1000000000000 := by omega
    rw [← hX]
    clear hX hj h g0
    rw [← e2]
    clear e2
    go_enter Tryz.func181, Tryz.ntmps181
    go_wp2
    exact bodyPost_ret (v := .int .u64 (146097 * ((X + 292277022400) / 100) / 4 + (1461 * ((X + 292277022400) % 100) / 4 + (979 * (M : Int) - 2919) / 32 + d - 1))) (by simp [results, Tryz.results181, go_sem]) rfl ⟨by congr 2; omega, rfl⟩

end Go.Proofs.YtopcjlimjkfoiaaGreatDoor
namespace Go.Proofs.YtopcjlimjkfoiaaGreatDoor
open Go

def Exit.jumps (J : Nat → Act → World → Prop) (Q : Exit → Act → World → Prop) : Exit → Act → World → Prop
  | .goto l, a, w => J l a w
  | e, a, w => Q e a w

section
variable {P : Program} {a : Act} {w : World} {Q : Exit → Act → World → Prop}

theorem wp_scope_labels {c : Code} (J : Nat → Act → World → Prop) (μ : Nat → Act → World → Nat)
    (first : c.wp P (Exit.jumps J Q) a w)
    (pass : ∀ l a w, J l a w → ∃ rest, findLabel c l = some rest ∧ rest.wp P (Exit.jumps (fun l' a' w' => J l' a' w' ∧ μ l' a' w' < μ l a w) Q) a w) : (Code.scope c).wp P Q a w := by
  intro b k cs
  have hg : ∀ l rest, findLabel c l = some rest → gotoIn l (.inScope c :: k) = some (.code rest :: .inScope c :: k) := fun l rest hf => by simp [gotoIn, hf]
  have key : ∀ n l a w, μ l a w = n → J l a w → ∃ rest, findLabel c l = some rest ∧ ∃ e a' w', Q e a' w' ∧ Arrives P (lone (b.at a (.code rest :: .inScope c :: k)) cs w) b k cs e a' w' := by
    intro n
    induction n using Nat.strongRecOn with
    | _ n ih =>
      intro l a w hn hJ
      obtain ⟨rest, hf, hwp⟩ := pass l a w hJ
      refine ⟨rest, hf, ?_⟩
      obtain ⟨e, a₁, w₁, hq, harr⟩ := hwp b (.inScope c :: k) cs
      cases e with
      | normal => exact ⟨.normal, a₁, w₁, hq, Steps.trans harr (.one step_inScope)⟩
      | exit id => exact ⟨.exit id, a₁, w₁, hq, fun k' hk => harr k' (by simp [exitTo, hk])⟩
      | goto l' =>
        obtain ⟨hJ', hlt⟩ := hq
        obtain ⟨rest', hf', e₂, a₂, w₂, hq₂, harr₂⟩ := ih _ (by omega) l' a₁ w₁ rfl hJ'
        exact ⟨e₂, a₂, w₂, hq₂, .of_steps (harr _ (hg l' rest' hf')) harr₂⟩
      | ret => exact ⟨_, a₁, w₁, hq, harr⟩
      | panic ch => exact ⟨_, a₁, w₁, hq, harr⟩
      | outgrown => exact ⟨_, a₁, w₁, hq, harr⟩
  obtain ⟨e, a₁, w₁, hq, harr⟩ := first b (.inScope c :: k) cs
  cases e with
  | normal => exact ⟨.normal, a₁, w₁, hq, .head step_scope (Steps.trans harr (.one step_inScope))⟩
  | exit id => exact ⟨.exit id, a₁, w₁, hq, fun k' hk => .head step_scope (harr k' (by simp [exitTo, hk]))⟩
  | goto l' =>
    obtain ⟨rest', hf', e₂, a₂, w₂, hq₂, harr₂⟩ := key _ l' a₁ w₁ rfl hq
    exact ⟨e₂, a₂, w₂, hq₂, .of_steps (.head step_scope (harr _ (hg l' rest' hf'))) harr₂⟩
  | ret => exact ⟨_, a₁, w₁, hq, .of_steps (.one step_scope) harr⟩
  | panic ch => exact ⟨_, a₁, w₁, hq, .of_steps (.one step_scope) harr⟩
  | outgrown => exact ⟨_, a₁, w₁, hq, .of_steps (.one step_scope) harr⟩
end
end Go.Proofs.YtopcjlimjkfoiaaGreatDoor
namespace Go.Proofs.YtopcjlimjkfoiaaGreatDoor
open Go
theorem ex_least {S : Nat → Prop} : ∀ n k, k ≤ n → S k → ∃ m, S m ∧ ∀ j, S j → m ≤ j := by
  intro n
  induction n with
  | zero =>
    intro k hk h
    obtain rfl : k = 0 := by omega
    exact ⟨0, h, fun j _ => Nat.zero_le j⟩
  | succ n ih =>
    intro k hk h
    by_cases hc : ∃ j, j ≤ n ∧ S j
    · obtain ⟨j, hj, hs⟩ := hc
      exact ih j hj hs
    · refine ⟨k, h, fun j hj => ?_⟩
      rcases Nat.lt_or_ge n j with hl | hl
      · omega
      · exact absurd ⟨j, hl, hj⟩ hc

open Classical in
noncomputable def least (S : Nat → Prop) : Nat := if h : ∃ m, S m ∧ ∀ j, S j → m ≤ j then Classical.choose h else 0

theorem least_is {S : Nat → Prop} {k : Nat} (h : S k) : S (least S) ∧ least S ≤ k := by
  have he := ex_least (S := S) k k (Nat.le_refl _) h
  unfold least
  rw [dif_pos he]
  have := Classical.choose_spec he
  exact ⟨this.1, this.2 k h⟩

section
variable {P : Program} {a : Act} {w : World} {Q : Exit → Act → World → Prop}

theorem wp_scope_nat {c : Code} (S : Nat → Nat → Act → World → Prop) (first : c.wp P (Exit.jumps (fun l a w => ∃ k, S l k a w) Q) a w)
    (pass : ∀ k l a w, S l k a w → ∃ rest, findLabel c l = some rest ∧ rest.wp P (Exit.jumps (fun l' a' w' => ∃ k', k' < k ∧ S l' k' a' w') Q) a w) : (Code.scope c).wp P Q a w := by
  refine wp_scope_labels (fun l a w => ∃ k, S l k a w) (fun l a w => least fun k => S l k a w) first ?_
  rintro l a w ⟨k, hk⟩
  obtain ⟨hs, _⟩ := least_is (S := fun k => S l k a w) hk
  obtain ⟨rest, hf, hw⟩ := pass _ l a w hs
  refine ⟨rest, hf, wp_mono hw ?_⟩
  intro e a' w' h
  cases e with
  | goto l' =>
    obtain ⟨k', hlt, hs'⟩ := h
    exact ⟨⟨k', hs'⟩, Nat.lt_of_le_of_lt (least_is (S := fun k => S l' k a' w') hs').2 hlt⟩
  | normal => exact h
  | exit _ => exact h
  | ret => exact h
  | panic _ => exact h
  | outgrown => exact h

theorem wp_loop_nat {c : Code} (S : Nat → Act → World → Prop) (k : Nat) (h0 : S k a w)
    (round : ∀ k a w, S k a w → c.wp P (Exit.then (fun a' w' => ∃ k', k' < k ∧ S k' a' w') Q) a w) : (Code.loop c).wp P Q a w := by
  refine wp_loop (fun a w => ∃ k, S k a w) (fun a w => least fun k => S k a w) ⟨k, h0⟩ ?_
  rintro a w ⟨k, hk⟩
  obtain ⟨hs, _⟩ := least_is (S := fun k => S k a w) hk
  refine wp_mono (round _ a w hs) ?_
  intro e a' w' h
  cases e with
  | normal =>
    obtain ⟨k', hlt, hs'⟩ := h
    exact ⟨⟨k', hs'⟩, Nat.lt_of_le_of_lt (least_is (S := fun k => S k a' w') hs').2 hlt⟩
  | goto _ => exact h
  | exit _ => exact h
  | ret => exact h
  | panic _ => exact h
  | outgrown => exact h

end
end Go.Proofs.YtopcjlimjkfoiaaGreatDoor
namespace Go.Proofs.YtopcjlimjkfoiaaGreatDoor
open Go.RowKit Go.Cal
theorem shr1_u64 (k : IntKind) (x : Int) : Op.shift .shr .u64 x k 1 = pure (.int .u64 (x / 2)) := by
  rw [shift_shr _ _ _ _ (by decide) (by decide)]
  rfl
theorem fdiv_two (x : Int) : x.fdiv (2 ^ min (Int.toNat 1) IntKind.u64.bits) = x / 2 := by
  show x.fdiv 2 = x / 2
  rw [Int.fdiv_eq_ediv_of_nonneg _ (by decide)]
attribute [local go_sem] Int.toNat_one shr1_u64 fdiv_two
attribute [local go_sem] Ext.cell Ext.frozen Ext.lt Ext.lt_add Ext.cell2 Ext.frozen2

structure ZoneAt (w : World) (l zb tb m : Nat) (ix : Nat → Nat) (z : Zn) : Prop where
  utc : w.cell? ⟨l, 0, none⟩ = some (.bool false)
  zs : ∃ c, w.cell? ⟨l, 2, none⟩ = some (.slice (some ⟨zb, 0, none⟩) m c)
  ts : ∃ c, w.cell? ⟨l, 3, none⟩ = some (.slice (some ⟨tb, 0, none⟩) z.n c)
  cache : w.cell? ⟨l, 7, none⟩ = some (.pointer none)
  at_ : ∀ i, i < z.n → w.cell? ⟨tb, i * 4, none⟩ = some (.int .i64 (z.w i)) ∧ w.cell? ⟨tb, i * 4 + 1, none⟩ = some (.int .u8 (ix i)) ∧ ix i < m ∧ w.cell? ⟨zb, ix i * 3 + 1, none⟩ = some (.int .i64 (z.o i)) ∧ (∃ v, w.cell? ⟨zb, ix i * 3, none⟩ = some v) ∧ ∃ v, w.cell? ⟨zb, ix i * 3 + 2, none⟩ = some v
  lt : l < w.heap.size ∧ zb < w.heap.size ∧ tb < w.heap.size
  m0 : 0 < m
  bd : m < 1000000 ∧ z.n < 1000000

/-FRAME-/
def endv (z : Zn) (hi : Nat) : Int := if hi < z.n then z.w hi else 9223372036854775807

set_option maxRecDepth 100000 in
inductive LFr (l tb ct : Nat) (z : Zn) (s : Int) (lo hi : Nat) : Act → Prop
  | mk (u2 u3 u4 u5 u6 u8 u9 u10 u14 u15 u16 u17 u18 u19 u20 u21 u22 u23 u24 u25 u26 u27 u28 u29 u30 u31 u32 u33 u34 u35 u36 u37 u38 u39 u40 u41 u42 u43 u44 u45 u46 u47 u48 u49 u50 u51 u52 u53 u54 u55 u56 u57 u58 u59 u60 u61 u62 u63 u64 u65 u66 u67 u68 u69 u70 u71 u72 u73 u74 u75 u76 u77 u78 u79 u80 u81 u82 u83 u84 u85 u86 u87 u88 u89 u90 u91 u92 u93 u94 u95 u96 u97 u98 u99 u100 u101 u102 u103 u104 u105 u106 u107 u108 u109 u110 u111 u112 u113 u114 u115 u116 u117 u118 u119 u120 u121 u122 u123 u124 u125 u126 u127 u128 u129 u130 u131 u132 u133 u134 u135 u136 u137 u138 u139 u140 u141 u142 u143 u144 u145 u146 u147 u148 u149 u150 u151 u152 u153 u154 u155 u156 u157 u158 u159 u160 u161 u162 u163 u164 u165 u166 u167 u168 u169 : Value) : LFr l tb ct z s lo hi ⟨#[.pointer (some ⟨l, 0, none⟩), .int .i64 s, u2, u3, u4, u5, u6, .int .i64 (endv z hi), u8, u9, u10, .slice (some ⟨tb, 0, none⟩) z.n ct, .int .i64 lo, .int .i64 hi, u14, u15, u16, u17, u18, u19, u20, u21, u22, u23, u24, u25, u26, u27, u28, u29, u30, u31, u32, u33, u34, u35, u36, u37, u38, u39, u40, u41, u42, u43, u44, u45, u46, u47, u48, u49, u50, u51, u52, u53, u54, u55, u56, u57, u58, u59, u60, u61, u62, u63, u64, u65, u66, u67, u68, u69, u70, u71, u72, u73, u74, u75, u76, u77, u78, u79, u80, u81, u82, u83, u84, u85, u86, u87, u88, u89, u90, u91, u92, u93, u94, u95, u96, u97, u98, u99, u100, u101, u102, u103, u104, u105, u106, u107, u108, u109, u110, u111, u112, u113, u114, u115, u116, u117, u118, u119, u120, u121, u122, u123, u124, u125, u126, u127, u128, u129, u130, u131, u132, u133, u134, u135, u136, u137, u138, u139, u140, u141, u142, u143, u144, u145, u146, u147, u148, u149, u150, u151, u152, u153, u154, u155, u156, u157, u158, u159, u160, u161, u162, u163, u164, u165, u166, u167, u168, u169], []⟩

def LTop (w : World) (l tb ct : Nat) (z : Zn) (s : Int) (k : Nat) (a : Act) (w' : World) : Prop :=
  w' = w ∧ ∃ lo hi : Nat, k = hi - lo ∧ lo < hi ∧ hi ≤ z.n ∧ z.w lo ≤ s ∧ (hi < z.n → s < z.w hi) ∧ LFr l tb ct z s lo hi a

/-END-/

theorem get_some (l : Addr) (w : World) : Calls Tryz.prog 187 #[.pointer (some l)] w fun e w' => e = .returned (.pointer (some l)) ∧ w' = w := by
  go_enter Tryz.func187, Tryz.ntmps187
  go_wp2
  go_ret
  exact ⟨rfl, rfl⟩

def loopOf : Code → Option Code
  | .loop c => some c
  | .seq a b => (loopOf a).or (loopOf b)
  | .block _ c => loopOf c
  | _ => none
noncomputable def lkBody : Code := (Tryz.f182.body.bind loopOf).getD .skip

set_option maxRecDepth 1000000 in
set_option maxHeartbeats 4000000 in
theorem lk_left {a : Act} {w : World} {l tb ct : Nat} {z : Zn} {s : Int} {lo hi mid : Nat} (Q : Exit → Act → World → Prop) (hc : lo + 1 < hi) (e : mid = (lo + hi) / 2) (hb : z.n < 1000000) (hhi : hi ≤ z.n)
    (t1 : w.cell? ⟨tb, mid * 4, none⟩ = some (.int .i64 (z.w mid))) (hs : s < z.w mid) (hgo : ∀ a, LFr l tb ct z s lo mid a → Q .normal a w) (hfr : LFr l tb ct z s lo hi a) : lkBody.wp Tryz.prog Q a w := by
  have e2 : z.w mid = endv z mid := by unfold endv; rw [if_pos (by omega)]
  have c1 : (1 : Int) < (hi : Int) - (lo : Int) := by omega
  have hb1 : (hi : Int) < 1000000 := by omega
  have hb2 : (hi : Int) ≤ (z.n : Int) := by omega
  have hM := Lib.hid (show ((lo : Int) + (hi : Int)) / 2 = (mid : Int) by omega)
  have l3 : (mid : Int) < (z.n : Int) := by omega
  have hG := Lib.hid hgo
  have hE := Lib.hid e2
  clear hgo e2 hc e
  cases hfr
  conv => arg 2; whnf
  iterate 57 (first | go_guarded | go_step | go_upon)
  rw [hM.out]
  go_wp2
  refine hG.out _ ?_
  rw [hE.out]
  constructor

set_option maxRecDepth 1000000 in
set_option maxHeartbeats 4000000 in
theorem lk_right {a : Act} {w : World} {l tb ct : Nat} {z : Zn} {s : Int} {lo hi mid : Nat} (Q : Exit → Act → World → Prop) (hc : lo + 1 < hi) (e : mid = (lo + hi) / 2) (hb : z.n < 1000000) (hhi : hi ≤ z.n)
    (t1 : w.cell? ⟨tb, mid * 4, none⟩ = some (.int .i64 (z.w mid))) (hs : ¬ s < z.w mid) (hgo : ∀ a, LFr l tb ct z s mid hi a → Q .normal a w) (hfr : LFr l tb ct z s lo hi a) : lkBody.wp Tryz.prog Q a w := by
  have c1 : (1 : Int) < (hi : Int) - (lo : Int) := by omega
  have hb1 : (hi : Int) < 1000000 := by omega
  have hb2 : (hi : Int) ≤ (z.n : Int) := by omega
  have hM := Lib.hid (show ((lo : Int) + (hi : Int)) / 2 = (mid : Int) by omega)
  have l3 : (mid : Int) < (z.n : Int) := by omega
  have hG := Lib.hid hgo
  clear hgo hc e
  cases hfr
  conv => arg 2; whnf
  iterate 57 (first | go_guarded | go_step | go_upon)
  rw [hM.out]
  go_wp2
  refine hG.out _ ?_
  constructor

set_option maxRecDepth 1000000 in
set_option maxHeartbeats 4000000 in
theorem lk_out {a : Act} {w : World} {l tb ct : Nat} {z : Zn} {s : Int} {lo : Nat} (Q : Exit → Act → World → Prop) (hb : lo < 1000000)
    (hgo : ∀ a, LFr l tb ct z s lo (lo + 1) a → Q (.exit 0) a w) (hfr : LFr l tb ct z s lo (lo + 1) a) : lkBody.wp Tryz.prog Q a w := by
  have hG := Lib.hid hgo
  clear hgo
  have c2 : ((lo + 1 : Nat) : Int) = (lo : Int) + 1 := by omega
  have c1 : ¬ (1 : Int) < ((lo + 1 : Nat) : Int) - (lo : Int) := by omega
  cases hfr
  conv => arg 2; whnf
  go_wp2
  refine hG.out _ ?_
  constructor

set_option maxRecDepth 1000000 in
set_option maxHeartbeats 4000000 in
theorem lk_loop {a : Act} {w : World} {l zb tb ct m : Nat} {ix : Nat → Nat} {z : Zn} {s : Int} (h : ZoneAt w l zb tb m ix z) (p : Plain z) (s0 : -9223372036854775808 ≤ s) (Q : Exit → Act → World → Prop)
    (hgo : ∀ a, LFr l tb ct z s (z.idx s) (z.idx s + 1) a → Q (.exit 0) a w) (hfr : LFr l tb ct z s 0 z.n a) : (Code.loop lkBody).wp Tryz.prog Q a w := by
  obtain ⟨b1, b2⟩ := h.bd
  refine wp_loop_nat (LTop w l tb ct z s) (z.n - 0) ⟨rfl, 0, z.n, rfl, p.pos, Nat.le_refl _, by rw [p.first]; exact s0, fun h => absurd h (Nat.lt_irrefl _), hfr⟩ ?_
  rintro k a w1 ⟨rfl, lo, hi, rfl, hlt, hhi, hlo, hend, hfr⟩
  by_cases hc : lo + 1 < hi
  · obtain ⟨mid, hmid⟩ : ∃ mid, mid = (lo + hi) / 2 := ⟨_, rfl⟩
    obtain ⟨t1, -⟩ := h.at_ mid (by omega)
    by_cases hs : s < z.w mid
    · exact lk_left _ hc hmid b2 hhi t1 hs (fun a hf => ⟨mid - lo, by omega, rfl, lo, mid, rfl, by omega, by omega, hlo, fun _ => hs, hf⟩) hfr
    · exact lk_right _ hc hmid b2 hhi t1 hs (fun a hf => ⟨hi - mid, by omega, rfl, mid, hi, rfl, by omega, hhi, by omega, hend, hf⟩) hfr
  · obtain rfl : hi = lo + 1 := by omega
    have hidx : z.idx s = lo := p.uniq s0 hhi hlo hend
    rw [hidx] at hgo
    exact lk_out _ (by omega) hgo hfr

/-LAST-/
set_option maxRecDepth 1000000 in
set_option maxHeartbeats 4000000 in
theorem lookup_zone {w : World} {l zb tb m : Nat} {ix : Nat → Nat} {z : Zn} (h : ZoneAt w l zb tb m ix z) (p : Plain z) (s : Int) (s0 : -9223372036854775808 ≤ s) (s1 : s < 9223372036854775807) :
    Calls Tryz.prog 182 #[.pointer (some ⟨l, 0, none⟩), .int .i64 s] w fun e w' => (∃ nm dst, e = .returned (.tuple #[nm, .int .i64 (z.off s), .int .i64 (z.w (z.idx s)), .int .i64 (endv z (z.idx s + 1)), dst])) ∧ ∃ y : Ext w, w' = y.now := by
  obtain ⟨cz, hz⟩ := h.zs
  obtain ⟨ct, hx⟩ := h.ts
  have h7 := h.cache
  obtain ⟨q1, -⟩ := h.at_ 0 p.pos
  obtain ⟨y1, y2, y3⟩ := p.spec s s0
  obtain ⟨t1, t2, t3, t4, ⟨x1, t5⟩, x2, t6⟩ := h.at_ (z.idx s) y1
  have hn := p.pos
  have hm := h.m0
  obtain ⟨b1, b2⟩ := h.bd
  rw [p.first, Nat.zero_mul] at q1
  obtain ⟨g1, g2, g3⟩ := h.lt
  have n0 : (0 : Int) < (z.n : Int) := by omega
  have m0 : ¬ ((m : Int) = 0) := by omega
  have k1 : ¬ s < -9223372036854775808 := by omega
  have HL := Lib.hid (fun (a : Act) (Q : Exit → Act → World → Prop) (hgo : ∀ a, LFr l tb ct z s (z.idx s) (z.idx s + 1) a → Q (.exit 0) a w) (hfr : LFr l tb ct z s 0 z.n a) => lk_loop h p s0 Q hgo hfr)
  have HE := Lib.hid (show (9223372036854775807 : Int) = endv z z.n by unfold endv; rw [if_neg (Nat.lt_irrefl _)])
  rw [show z.off s = z.o (z.idx s) from rfl]
  clear h p
  generalize z.idx s = i at *
  have l3 : (i : Int) < (z.n : Int) := by omega
  have l4 : ((ix i : Nat) : Int) < (m : Int) := by omega
  go_enter Tryz.func182, Tryz.ntmps182
  go_wp2_with (go_at_call 187; refine (get_some _ _).mono ?_; rintro e w' ⟨rfl, rfl⟩)
  · exfalso
    rename_i hh _ _
    rcases hh with hh | hh
    · have := eq_of_beq hh
      omega
    · omega
  refine HL.out _ _ ?_ (by rw [HE.out]; constructor)
  intro a hf
  clear HL HE q1
  cases hf
  go_wp2
  refine wp_region_ext (by kernel_rfl) (by kernel_rfl) ?_
  repeat (quiet_step (fail))
  refine wpQuiet_nil ?_
  rintro w1 ⟨y, rfl⟩
  go_wp2
  exact bodyPost_ret (v := .tuple #[x1, .int .i64 (z.o i), .int .i64 (z.w i), .int .i64 (endv z (i + 1)), x2]) (by simp [results, Tryz.results182, go_sem]) rfl ⟨⟨x1, x2, rfl⟩, y, rfl⟩

end Go.Proofs.YtopcjlimjkfoiaaGreatDoor
namespace Go.Proofs.YtopcjlimjkfoiaaGreatDoor
open Go.RowKit Go.Cal
attribute [local go_sem] Ext.cell Ext.frozen Ext.lt Ext.lt_add Ext.cell2 Ext.frozen2

def utcZn : Zn := ⟨1, fun _ => -9223372036854775808, fun _ => 0⟩

set_option maxRecDepth 1000000 in
theorem lookup_utcBlock (l : Nat) (s : Int) (w : World) (c : Nat) (hz : w.cell? ⟨l, 2, none⟩ = some (.slice none 0 c)) :
    Calls Tryz.prog 182 #[.pointer (some ⟨l, 0, none⟩), .int .i64 s] w fun e w' => (∃ nm dst, e = .returned (.tuple #[nm, .int .i64 0, .int .i64 (-9223372036854775808), .int .i64 9223372036854775807, dst])) ∧ w' = w := by
  go_enter Tryz.func182, Tryz.ntmps182
  go_wp2_with (go_at_call 187; refine (get_some _ _).mono ?_; rintro e w' ⟨rfl, rfl⟩)
  exact bodyPost_ret (v := .tuple #[.string ⟨#[85, 84, 67]⟩, .int .i64 0, .int .i64 (-9223372036854775808), .int .i64 9223372036854775807, .bool false]) (by simp [results, Tryz.results182, go_sem]) rfl ⟨⟨_, _, rfl⟩, rfl⟩

theorem utc_zone (w : World) :
    Calls Tryz.prog 61 #[] w fun e w' => e = .returned (.pointer (some ⟨w.heap.size, 0, none⟩)) ∧ w'.cell? ⟨w.heap.size, 2, none⟩ = some (.slice none 0 0) ∧ ∃ y : Ext w, w' = y.now := by
  go_enter Tryz.func61, Tryz.ntmps61
  go_wp2
  go_ret
  refine ⟨rfl, by simp [go_sem], ⟨_, (Below.refl _ _).alloc (Nat.le_refl _) _⟩, rfl⟩

theorem get_none (w : World) :
    Calls Tryz.prog 187 #[.pointer none] w fun e w' => (∃ l, e = .returned (.pointer (some ⟨l, 0, none⟩)) ∧ w'.cell? ⟨l, 2, none⟩ = some (.slice none 0 0)) ∧ ∃ y : Ext w, w' = y.now := by
  go_enter Tryz.func187, Tryz.ntmps187
  go_wp2_with (go_at_call 61; refine (utc_zone _).mono ?_; rintro e w' ⟨rfl, hz, y, rfl⟩)
  go_ret
  exact ⟨⟨_, rfl, hz⟩, y, rfl⟩

set_option maxRecDepth 1000000 in
theorem lookup_none (s : Int) (w : World) :
    Calls Tryz.prog 182 #[.pointer none, .int .i64 s] w fun e w' => (∃ nm dst, e = .returned (.tuple #[nm, .int .i64 0, .int .i64 (-9223372036854775808), .int .i64 9223372036854775807, dst])) ∧ ∃ y : Ext w, w' = y.now := by
  go_enter Tryz.func182, Tryz.ntmps182
  go_wp2_with (go_at_call 187; refine (get_none _).mono ?_; rintro e w' ⟨⟨l, rfl, hz⟩, y, rfl⟩)
  exact bodyPost_ret (v := .tuple #[.string ⟨#[85, 84, 67]⟩, .int .i64 0, .int .i64 (-9223372036854775808), .int .i64 9223372036854775807, .bool false]) (by simp [results, Tryz.results182, go_sem]) rfl ⟨⟨_, _, rfl⟩, y, rfl⟩

end Go.Proofs.YtopcjlimjkfoiaaGreatDoor
namespace Go.Proofs.YtopcjlimjkfoiaaGreatDoor
open Go.RowKit Go.Cal
attribute [local go_sem] Ext.cell Ext.frozen Ext.lt Ext.lt_add Ext.cell2 Ext.frozen2

theorem ZoneAt.ext {w : World} {l zb tb m : Nat} {ix : Nat → Nat} {z : Zn} (h : ZoneAt w l zb tb m ix z) (x : Ext w) : ZoneAt x.now l zb tb m ix z := by
  obtain ⟨g1, g2, g3⟩ := h.lt
  refine ⟨?_, ?_, ?_, ?_, ?_, ⟨x.lt _ g1, x.lt _ g2, x.lt _ g3⟩, h.m0, h.bd⟩
  · rw [x.cell _ _ g1]; exact h.utc
  · rw [x.cell _ _ g1]; exact h.zs
  · rw [x.cell _ _ g1]; exact h.ts
  · rw [x.cell _ _ g1]; exact h.cache
  · intro i hi
    rw [x.cell _ _ g3, x.cell _ _ g3, x.cell _ _ g2, x.cell _ _ g2, x.cell _ _ g2]
    exact h.at_ i hi

inductive Tpl (w : World) : Option Addr → Zn → Prop
  | utc : Tpl w none utcZn
  | zone {l zb tb m : Nat} {ix : Nat → Nat} {z : Zn} (h : ZoneAt w l zb tb m ix z) : Tpl w (some ⟨l, 0, none⟩) z

theorem Tpl.ext {w : World} {p : Option Addr} {z : Zn} (h : Tpl w p z) (x : Ext w) : Tpl x.now p z := by
  cases h with
  | utc => exact .utc
  | zone h => exact .zone (h.ext x)

theorem utc_two (w : World) :
    Calls Tryz.prog 61 #[] w fun e w' => ∃ l, e = .returned (.pointer (some ⟨l, 0, none⟩)) ∧ w'.cell? ⟨l, 0, none⟩ = some (.bool true) ∧ w'.cell? ⟨l, 2, none⟩ = some (.slice none 0 0) ∧ l < w'.heap.size ∧ ∃ y : Ext w, w' = y.now := by
  go_enter Tryz.func61, Tryz.ntmps61
  go_wp2
  go_ret
  refine ⟨_, rfl, by simp [go_sem], by simp [go_sem], by simp, ⟨_, (Below.refl _ _).alloc (Nat.le_refl _) _⟩, rfl⟩

theorem get_utc (w : World) :
    Calls Tryz.prog 187 #[.pointer none] w fun e w' => ∃ l, e = .returned (.pointer (some ⟨l, 0, none⟩)) ∧ w'.cell? ⟨l, 0, none⟩ = some (.bool true) ∧ w'.cell? ⟨l, 2, none⟩ = some (.slice none 0 0) ∧ l < w'.heap.size ∧ ∃ y : Ext w, w' = y.now := by
  go_enter Tryz.func187, Tryz.ntmps187
  go_wp2_with (go_at_call 61; refine (utc_two _).mono ?_; rintro e w' ⟨l, rfl, h0, h2, hl, y, rfl⟩)
  go_ret
  exact ⟨l, rfl, h0, h2, hl, y, rfl⟩

theorem loc_utc (s : Int) : utcZn.loc s = s := by
  show s + 0 = s
  omega

theorem utc_plain : Plain utcZn := by
  refine ⟨by decide, rfl, ?_, ?_, ?_, ?_⟩
  · intro i hi; exact absurd hi (by show ¬ i + 1 < 1; omega)
  · intro i _; exact (show (-86400 : Int) ≤ 0 ∧ (0 : Int) ≤ 86400 ∧ (0 : Int) % 60 = 0 by decide)
  · intro i h1 hi; exact absurd hi (by show ¬ i + 1 < 1; omega)
  · intro i hi; exact absurd hi (by show ¬ i + 1 < 1; omega)

theorem abs_wrap (s : Int) (h0 : -4000000000000000 ≤ s) (h1 : s ≤ 40000000000000) : IntKind.u64.wrap (wrap64 (s + 9223372028741760000)) = s + 9223372028741760000 := by
  simp [wrap64, IntKind.wrap, IntKind.bits, IntKind.signed]
  omega

set_option maxRecDepth 100000 in
theorem absSec_any {w : World} {p : Option Addr} {z : Zn} (h : Tpl w p z) (hp : Plain z) (n s : Int) (h0 : 0 ≤ n) (h1 : n < 1073741824) (g0 : -3000000000000000 ≤ s) (g1 : s ≤ 30000000000000) :
    Calls Tryz.prog 172 #[tv n (s + 62135596800) p] w fun e w' => e = .returned (.int .u64 (z.loc s + C0)) ∧ ∃ y : Ext w, w' = y.now := by
  have hb := hp.bd' s
  have hloc : z.loc s = s + z.off s := rfl
  have hc0 : C0 = 9223372028741760000 := rfl
  cases h with
  | utc =>
    have hW := abs_wrap s (by omega) (by omega)
    rw [loc_utc, hc0]
    go_enter Tryz.func172, Tryz.ntmps172
    go_wp2_with (first
      | (go_at_call 187; refine (get_utc _).mono ?_; rintro e w' ⟨l, rfl, h0, h2, hl, y, rfl⟩)
      | (go_at_call 102; refine (unixSec_any _ _ n (s + 62135596800) _ (by omega) (by omega) (by omega) (by omega) (by simp [go_sem]) (by simp [go_sem])).mono ?_; rintro e w' ⟨rfl, rfl⟩))
    go_ret
    exact ⟨rfl, (Ext.one w _).trans y, rfl⟩
  | @zone l zb tb m ix _ hz =>
    have hW := abs_wrap (s + z.off s) (by omega) (by omega)
    have hu := hz.utc
    have h7 := hz.cache
    obtain ⟨l1, l2, l3⟩ := hz.lt
    rw [hloc, hc0]
    go_enter Tryz.func172, Tryz.ntmps172
    go_wp2_with (first
      | (go_at_call 102; refine (unixSec_any _ _ n (s + 62135596800) _ (by omega) (by omega) (by omega) (by omega) (by simp [go_sem]) (by simp [go_sem])).mono ?_; rintro e w' ⟨rfl, rfl⟩)
      | (go_at_call 182; refine (lookup_zone (hz.ext (Ext.one w _)) hp _ (by omega) (by omega)).mono ?_; rintro e w' ⟨⟨nm, dst, rfl⟩, y, rfl⟩))
    go_ret
    exact ⟨rfl, (Ext.one w _).trans y, rfl⟩

end Go.Proofs.YtopcjlimjkfoiaaGreatDoor
