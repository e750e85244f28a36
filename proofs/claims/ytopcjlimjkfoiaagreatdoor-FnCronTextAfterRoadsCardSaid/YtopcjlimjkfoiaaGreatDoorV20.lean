/-
FnCronTextAfterRoads: the calendar, the schedules, their texts and the zones, part 20 of 34.
-/
import Derived.Test.YtopcjlimjkfoiaaGreatDoorV19
import Derived.Deep.CutBlock
import Derived.Deep.DeepCutAuto
import Derived.Test.YtopcjlimjkfoiaaGreatDoorV18
import Derived.Test.YtopcjlimjkfoiaaGreatDoorV04
set_option linter.all false
namespace Go.Proofs.YtopcjlimjkfoiaaGreatDoor
open Go.RowKit
attribute [local go_sem] Ext.cell Ext.frozen Ext.lt Ext.lt_add Ext.cell2 Ext.frozen2

def PlainZ (O W I : List Int) : Prop := (∀ i, i < O.length → O.getD i 0 % 60 = 0) ∧ ∀ i, 1 ≤ i → i < W.length → -62167596800 ≤ W.getD i 0 ∧ W.getD i 0 ≤ 253722300799 ∧ (1 < i → 345600 ≤ W.getD i 0 - W.getD (i - 1) 0) ∧
  ∀ b a, b = W.getD i 0 + O.getD (I.getD (i - 1) 0).toNat 0 → a = W.getD i 0 + O.getD (I.getD i 0).toNat 0 → b % 3600 = 0 ∧ a % 3600 = 0 ∧ b - 3600 ≤ a ∧ b / 86400 = a / 86400 ∧ 3600 ≤ b % 86400 ∧ 3600 ≤ a % 86400
def PlainZRes (O W I : List Int) (e : Ending) : Prop := ∃ b, e = .returned (.bool b) ∧ (b = true → PlainZ O W I)

set_option maxRecDepth 1000000 in
set_option maxHeartbeats 8000000 in
theorem plainZone_any {w : World} {vo vw vi : Value} {O W I : List Int} (oD : Option Addr) (nd cd : Nat) (hO : IRow w vo O) (hW : IRow w vw W) (hI : IRow w vi I) (hg : GoodZ O W I nd) :
    Calls Tryz.prog 9 #[.agg #[vo, .slice oD nd cd, vw, vi]] w fun e w' => PlainZRes O W I e ∧ ∃ y : Ext w, w' = y.now := by
  obtain ⟨oO, cO, rfl, hO⟩ := hO
  obtain ⟨oW, cW, rfl, hW⟩ := hW
  obtain ⟨oI, cI, rfl, hI⟩ := hI
  have hsz : O.length ≤ 64 ∧ W.length ≤ 4096 ∧ I.length = W.length := by
    rcases hg with ⟨rfl, rfl, rfl⟩ | ⟨_, h1, _, _, h2, h3, _⟩
    · decide
    · exact ⟨h1, h2, h3⟩
  have hof : ∀ i, i < O.length → -86400 ≤ O.getD i 0 ∧ O.getD i 0 ≤ 86400 := by
    rcases hg with ⟨rfl, rfl, rfl⟩ | ⟨_, _, _, _, _, _, _, h, _⟩
    · exact fun i hi => absurd hi (Nat.not_lt_zero _)
    · exact h
  have hix : ∀ i, i < I.length → 0 ≤ I.getD i 0 ∧ I.getD i 0 < O.length := by
    rcases hg with ⟨rfl, rfl, rfl⟩ | ⟨_, _, _, _, _, _, _, _, h⟩
    · exact fun i hi => absurd hi (Nat.not_lt_zero _)
    · exact fun i hi => ⟨(h i hi).1, (h i hi).2.1⟩
  have nO : (O.length : Int) ≤ 64 := by omega
  have nW : (W.length : Int) ≤ 4096 := by omega
  have HIW := Lib.hid hsz.2.2
  have HOF := Lib.hid hof
  have HIX := Lib.hid hix
  clear hsz hof hix hg
  go_enter Tryz.func9, Tryz.ntmps9
  go_upto_region 1 with fail
  obtain ⟨G, hG⟩ : ∃ G, G = w.heap.size := ⟨_, rfl⟩
  obtain ⟨wz, hwz⟩ : ∃ wz, wz = w.alloc (.cells #[.slice oO O.length cO, .slice oD nd cd, .slice oW W.length cW, .slice oI I.length cI] 28) := ⟨_, rfl⟩
  have z0 : wz.cell? ⟨G, 0, none⟩ = some (.slice oO O.length cO) := by rw [hwz, hG]; simp [go_sem]
  have z2 : wz.cell? ⟨G, 2, none⟩ = some (.slice oW W.length cW) := by rw [hwz, hG]; simp [go_sem]
  have z3 : wz.cell? ⟨G, 3, none⟩ = some (.slice oI I.length cI) := by rw [hwz, hG]; simp [go_sem]
  have zl : G < wz.heap.size := by rw [hwz, hG]; simp
  have up : ∀ g off l, g < w.heap.size → (∀ i, i < List.length l → w.cell? ⟨g, off + i, none⟩ = some (.int .i64 (l.getD i 0))) → g < wz.heap.size ∧ ∀ i, i < l.length → wz.cell? ⟨g, off + i, none⟩ = some (.int .i64 (l.getD i 0)) := by
    intro g off l h1 h2
    have e : wz = (Ext.one w (.cells #[.slice oO O.length cO, .slice oD nd cd, .slice oW W.length cW, .slice oI I.length cI] 28)).now := hwz
    rw [e]
    exact ⟨Ext.lt _ _ h1, fun i hi => by rw [Ext.cell _ _ _ h1]; exact h2 i hi⟩
  have HO := Lib.hid (show O ≠ [] → ∃ g off, oO = some ⟨g, off, none⟩ ∧ g < wz.heap.size ∧ O.length ≤ cO ∧ ∀ i, i < O.length → wz.cell? ⟨g, off + i, none⟩ = some (.int .i64 (O.getD i 0)) from fun h => by
    obtain ⟨g, off, h1, h2, h3, h4⟩ := hO h
    exact ⟨g, off, h1, (up g off O h2 h4).1, h3, (up g off O h2 h4).2⟩)
  have HW := Lib.hid (show W ≠ [] → ∃ g off, oW = some ⟨g, off, none⟩ ∧ g < wz.heap.size ∧ W.length ≤ cW ∧ ∀ i, i < W.length → wz.cell? ⟨g, off + i, none⟩ = some (.int .i64 (W.getD i 0)) from fun h => by
    obtain ⟨g, off, h1, h2, h3, h4⟩ := hW h
    exact ⟨g, off, h1, (up g off W h2 h4).1, h3, (up g off W h2 h4).2⟩)
  have HI := Lib.hid (show I ≠ [] → ∃ g off, oI = some ⟨g, off, none⟩ ∧ g < wz.heap.size ∧ I.length ≤ cI ∧ ∀ i, i < I.length → wz.cell? ⟨g, off + i, none⟩ = some (.int .i64 (I.getD i 0)) from fun h => by
    obtain ⟨g, off, h1, h2, h3, h4⟩ := hI h
    exact ⟨g, off, h1, (up g off I h2 h4).1, h3, (up g off I h2 h4).2⟩)
  have HWZ := Lib.hid (show ∃ x : Ext w, wz = x.now from ⟨Ext.one w _, hwz⟩)
  rw [← hwz, ← hG]
  clear hwz hG up hO hW hI
  go_upto_block 0 with fail
  go_cut [12] (fun _ wr => (∀ i, i < O.length → O.getD i 0 % 60 = 0) ∧ wr = wz)
  case first =>
    go_wp2_with fail
    go_loopw [12] (fun t wr => ∃ i : Nat, t = .int .i64 i ∧ i ≤ O.length ∧ (∀ j, j < i → O.getD j 0 % 60 = 0) ∧ wr = wz) (fun t _ => O.length - (intOf t).toNat)
    case atStart => exact ⟨0, rfl, Nat.zero_le _, fun j h => absurd h (Nat.not_lt_zero _), rfl⟩
    case round =>
      obtain ⟨i, rfl, hi, hall, rfl⟩ := hrel
      have HALL := Lib.hid hall
      clear hall
      by_cases hlt : i < O.length
      · have hlt' : (i : Int) < (O.length : Int) := by omega
        obtain ⟨gO, offO, rfl, hgO, hcO, hcell⟩ := HO.out (fun e => by rw [e] at hlt; simp at hlt)
        have hco := hcell i hlt
        clear hcell
        obtain ⟨v, hv⟩ : ∃ v, v = O.getD i 0 := ⟨_, rfl⟩
        rw [← hv] at hco
        have HV := Lib.hid hv
        have hvb := HOF.out i hlt
        rw [← hv] at hvb
        obtain ⟨hv1, hv2⟩ := hvb
        clear hv
        by_cases h1 : v.tmod 60 = 0
        · have k1 : (v.tmod 60 != 0) = false := by rw [h1]; rfl
          have HM := Lib.hid (show v % 60 = 0 from by
            have h5 : (60 : Int) * (v.tdiv 60) + v.tmod 60 = v := Int.mul_tdiv_add_tmod v 60
            omega)
          clear h1
          go_wp2_with fail
          refine ⟨⟨i + 1, by simp, by omega, fun j hj => ?_, trivial⟩, by simp [intOf]; omega⟩
          by_cases e : j = i
          · rw [e, ← HV.out]; exact HM.out
          · exact HALL.out j (by omega)
        · have k1 : (v.tmod 60 != 0) = true := bne_iff_ne.2 h1
          clear h1
          go_wp2_with fail
          go_ret
          obtain ⟨y, rfl⟩ := HWZ.out
          exact ⟨⟨false, rfl, fun h => Bool.noConfusion h⟩, y.trans (Ext.refl _), rfl⟩
      · have hlt' : ¬ (i : Int) < (O.length : Int) := by omega
        go_wp2_with fail
        go_meet
        case rel => exact ⟨fun j hj => HALL.out j (by omega), rfl⟩
  case rest =>
    obtain ⟨hO1, hwc⟩ := hcut
    subst wc
    have HO1 := Lib.hid hO1
    clear hO1
    go_wp2_with fail
    go_loopw [5] (fun t wr => ∃ i : Nat, t = .int .i64 i ∧ 1 ≤ i ∧ i ≤ W.length + 1 ∧ (∀ j, 1 ≤ j → j < i → j < W.length → -62167596800 ≤ W.getD j 0 ∧ W.getD j 0 ≤ 253722300799 ∧ (1 < j → 345600 ≤ W.getD j 0 - W.getD (j - 1) 0) ∧ ∀ b a, b = W.getD j 0 + O.getD (I.getD (j - 1) 0).toNat 0 → a = W.getD j 0 + O.getD (I.getD j 0).toNat 0 → b % 3600 = 0 ∧ a % 3600 = 0 ∧ b - 3600 ≤ a ∧ b / 86400 = a / 86400 ∧ 3600 ≤ b % 86400 ∧ 3600 ≤ a % 86400) ∧ ∃ x : Ext wz, wr = x.now) (fun t _ => W.length + 1 - (intOf t).toNat)
    case atStart => exact ⟨1, rfl, Nat.le_refl _, by omega, fun j h1 h2 => absurd h2 (by omega), Ext.here _⟩
    case round =>
      obtain ⟨i, rfl, hi1, hi, hall, x, rfl⟩ := hrel
      have HALL := Lib.hid hall
      clear hall
      by_cases hlt : i < W.length
      · have hlt' : (i : Int) < (W.length : Int) := by omega
        have hltI : i < I.length := by have := HIW.out; omega
        obtain ⟨gW, offW, rfl, hgW, hcW, hcellW⟩ := HW.out (fun e => by rw [e] at hlt; simp at hlt)
        obtain ⟨gI, offI, rfl, hgI, hcI, hcellI⟩ := HI.out (fun e => by rw [e] at hltI; simp at hltI)
        have hOne : O ≠ [] := fun e => by
          have := HIX.out i hltI
          rw [e] at this
          simp at this
          omega
        obtain ⟨gO, offO, rfl, hgO, hcO, hcellO⟩ := HO.out hOne
        obtain ⟨m, rfl⟩ : ∃ m, i = m + 1 := ⟨i - 1, by omega⟩
        have hwu := hcellW (m + 1) hlt
        have hwp := hcellW m (by omega)
        have hiu := hcellI (m + 1) hltI
        have hip := hcellI m (by omega)
        have hxu := HIX.out (m + 1) hltI
        have hxp := HIX.out m (by omega)
        obtain ⟨ku, hku⟩ : ∃ k : Nat, I.getD (m + 1) 0 = (k : Int) := ⟨(I.getD (m + 1) 0).toNat, by omega⟩
        obtain ⟨kp, hkp⟩ : ∃ k : Nat, I.getD m 0 = (k : Int) := ⟨(I.getD m 0).toNat, by omega⟩
        rw [hku] at hiu hxu
        rw [hkp] at hip hxp
        have hou := hcellO ku (by omega)
        have hop := hcellO kp (by omega)
        have hbu := HOF.out ku (by omega)
        have hbp := HOF.out kp (by omega)
        obtain ⟨u, hu⟩ : ∃ u, u = W.getD (m + 1) 0 := ⟨_, rfl⟩
        obtain ⟨p, hp⟩ : ∃ p, p = W.getD m 0 := ⟨_, rfl⟩
        obtain ⟨ou, hoU⟩ : ∃ o, o = O.getD ku 0 := ⟨_, rfl⟩
        obtain ⟨op, hoP⟩ : ∃ o, o = O.getD kp 0 := ⟨_, rfl⟩
        rw [← hu] at hwu
        rw [← hp] at hwp
        rw [← hoU] at hou hbu
        rw [← hoP] at hop hbp
        have kuO : (ku : Int) < (O.length : Int) := hxu.2
        have kpO : (kp : Int) < (O.length : Int) := hxp.2
        obtain ⟨bu1, bu2⟩ := hbu
        obtain ⟨bp1, bp2⟩ := hbp
        have HEQ := Lib.hid (show W.getD (m + 1) 0 = u ∧ W.getD m 0 = p ∧ O.getD (I.getD (m + 1) 0).toNat 0 = ou ∧ O.getD (I.getD m 0).toNat 0 = op from ⟨hu.symm, hp.symm, by rw [hku, Int.toNat_natCast]; exact hoU.symm, by rw [hkp, Int.toNat_natCast]; exact hoP.symm⟩)
        have hmW : (m : Int) < (W.length : Int) := by omega
        have hmI : (m : Int) < (I.length : Int) := by omega
        have hmI1 : (m : Int) + 1 < (I.length : Int) := by omega
        have hmW1 : (m : Int) + 1 < (W.length : Int) := by omega
        have hm1 : (m : Int) + 1 ≤ 4096 := by omega
        clear hu hp hoU hoP hku hkp hcellO hcellW hcellI hxu hxp
        by_cases h1 : u < -62167596800
        · clear hlt'
          go_wp2_with fail
          go_ret
          obtain ⟨y, rfl⟩ := HWZ.out
          exact ⟨⟨false, rfl, fun h => Bool.noConfusion h⟩, y.trans x, rfl⟩
        · by_cases h2 : 253722300799 < u
          · clear hlt'
            go_wp2_with fail
            go_ret
            obtain ⟨y, rfl⟩ := HWZ.out
            exact ⟨⟨false, rfl, fun h => Bool.noConfusion h⟩, y.trans x, rfl⟩
          · have HB := Lib.hid (show -62167596800 ≤ u ∧ u ≤ 253722300799 from ⟨by omega, by omega⟩)
            clear hlt'
            go_upto_region 13 with fail
            go_cut [54] (fun t54 wr => ∃ bad : Bool, t54 = .bool bad ∧ (bad = false → (0 < m → 345600 ≤ u - p)) ∧ ∃ x : Ext wz, wr = x.now)
            case first =>
              by_cases hm0 : m = 0
              · subst hm0
                rw [Nat.add_zero] at hwp hip
                go_quiet (fail)
                go_wp2_with fail
                go_meet
                case rel => exact ⟨false, rfl, fun _ h => absurd h (Nat.lt_irrefl _), x.trans (Ext.draws _ _), rfl⟩
              · have hpb := HALL.out m (by omega) (by omega) (by omega)
                rw [HEQ.out.2.1] at hpb
                obtain ⟨pb1, pb2, _, _⟩ := hpb
                have d3 : decide ((1 : Int) < (m : Int) + 1) = true := decide_eq_true (by omega)
                clear hm0
                by_cases h4 : u - p < 345600
                · have d4 : decide (u - p < 345600) = true := decide_eq_true h4
                  clear h4
                  go_quiet (fail)
                  go_wp2_with fail
                  go_meet
                  case rel => exact ⟨true, rfl, fun h => Bool.noConfusion h, x.trans (Ext.draws _ _), rfl⟩
                · have d4 : decide (u - p < 345600) = false := decide_eq_false h4
                  have H4 := Lib.hid h4
                  clear h4
                  go_quiet (fail)
                  go_wp2_with fail
                  go_meet
                  case rel => exact ⟨false, rfl, fun _ _ => by have := H4.out; omega, x.trans (Ext.draws _ _), rfl⟩
            case rest =>
              obtain ⟨bad, rfl, hbad, x2, rfl⟩ := hcut
              have HBAD := Lib.hid hbad
              clear hbad
              cases bad with
              | true =>
                go_wp2_with fail
                go_ret
                obtain ⟨y, rfl⟩ := HWZ.out
                exact ⟨⟨false, rfl, fun h => Bool.noConfusion h⟩, y.trans x2, rfl⟩
              | false =>
                obtain ⟨bf, hbf⟩ : ∃ b, u + op = b := ⟨_, rfl⟩
                obtain ⟨af, haf⟩ : ∃ a, u + ou = a := ⟨_, rfl⟩
                have hbb : -1000000000000 ≤ bf ∧ bf ≤ 1000000000000 := by omega
                have hab : -1000000000000 ≤ af ∧ af ≤ 1000000000000 := by omega
                obtain ⟨hbb1, hbb2⟩ := hbb
                obtain ⟨hab1, hab2⟩ := hab
                have hb36 := Lib.hid (fun (V : World) => fmod_any bf 3600 (.inl rfl) (by omega) (by omega) V)
                have ha36 := Lib.hid (fun (V : World) => fmod_any af 3600 (.inl rfl) (by omega) (by omega) V)
                have hb86 := Lib.hid (fun (V : World) => fmod_any bf 86400 (.inr rfl) (by omega) (by omega) V)
                have ha86 := Lib.hid (fun (V : World) => fmod_any af 86400 (.inr rfl) (by omega) (by omega) V)
                have hbd := Lib.hid (fun (V : World) => fdiv_any bf 86400 (.inr rfl) (by omega) (by omega) V)
                have had := Lib.hid (fun (V : World) => fdiv_any af 86400 (.inr rfl) (by omega) (by omega) V)
                obtain ⟨r1, e1⟩ : ∃ r, r = bf % 3600 := ⟨_, rfl⟩
                obtain ⟨r2, e2⟩ : ∃ r, r = af % 3600 := ⟨_, rfl⟩
                obtain ⟨s1, e3⟩ : ∃ r, r = bf % 86400 := ⟨_, rfl⟩
                obtain ⟨s2, e4⟩ : ∃ r, r = af % 86400 := ⟨_, rfl⟩
                obtain ⟨q1, e5⟩ : ∃ r, r = bf / 86400 := ⟨_, rfl⟩
                obtain ⟨q2, e6⟩ : ∃ r, r = af / 86400 := ⟨_, rfl⟩
                rw [← e1] at hb36
                rw [← e2] at ha36
                rw [← e3] at hb86
                rw [← e4] at ha86
                rw [← e5] at hbd
                rw [← e6] at had
                have HE := Lib.hid (show r1 = bf % 3600 ∧ r2 = af % 3600 ∧ s1 = bf % 86400 ∧ s2 = af % 86400 ∧ q1 = bf / 86400 ∧ q2 = af / 86400 from ⟨e1, e2, e3, e4, e5, e6⟩)
                clear e1 e2 e3 e4 e5 e6
                go_upto_region 15 with fail
                go_quiet (fail)
                by_cases c1 : r1 = 0
                · have k1 : (r1 != 0) = false := by rw [c1]; rfl
                  have C1 := Lib.hid c1
                  clear c1
                  by_cases c2 : r2 = 0
                  · have k2 : (r2 != 0) = false := by rw [c2]; rfl
                    have C2 := Lib.hid c2
                    clear c2
                    by_cases c3 : af < bf - 3600
                    · go_upto_if 91 with (first   | (go_at_call 19; (with_reducible refine (hb36.out _).mono ?_); rintro e w9 ⟨rfl, rfl⟩)   | (go_at_call 19; (with_reducible refine (ha36.out _).mono ?_); rintro e w9 ⟨rfl, rfl⟩)   | (go_at_call 19; (with_reducible refine (hb86.out _).mono ?_); rintro e w9 ⟨rfl, rfl⟩)   | (go_at_call 19; (with_reducible refine (ha86.out _).mono ?_); rintro e w9 ⟨rfl, rfl⟩)   | (go_at_call 20; (with_reducible refine (hbd.out _).mono ?_); rintro e w9 ⟨rfl, rfl⟩)   | (go_at_call 20; (with_reducible refine (had.out _).mono ?_); rintro e w9 ⟨rfl, rfl⟩))
                      go_wp2_with fail
                      go_ret
                      obtain ⟨y, rfl⟩ := HWZ.out
                      exact ⟨⟨false, rfl, fun h => Bool.noConfusion h⟩, y.trans (x2.trans (Ext.draws _ _)), rfl⟩
                    · have C3 := Lib.hid c3
                      by_cases c4 : q1 = q2
                      · have k4 : (q1 != q2) = false := by rw [c4]; simp
                        have C4 := Lib.hid c4
                        clear c4
                        by_cases c5 : s1 < 3600
                        · go_upto_if 106 with (first   | (go_at_call 19; (with_reducible refine (hb36.out _).mono ?_); rintro e w9 ⟨rfl, rfl⟩)   | (go_at_call 19; (with_reducible refine (ha36.out _).mono ?_); rintro e w9 ⟨rfl, rfl⟩)   | (go_at_call 19; (with_reducible refine (hb86.out _).mono ?_); rintro e w9 ⟨rfl, rfl⟩)   | (go_at_call 19; (with_reducible refine (ha86.out _).mono ?_); rintro e w9 ⟨rfl, rfl⟩)   | (go_at_call 20; (with_reducible refine (hbd.out _).mono ?_); rintro e w9 ⟨rfl, rfl⟩)   | (go_at_call 20; (with_reducible refine (had.out _).mono ?_); rintro e w9 ⟨rfl, rfl⟩))
                          go_wp2_with fail
                          go_ret
                          obtain ⟨y, rfl⟩ := HWZ.out
                          exact ⟨⟨false, rfl, fun h => Bool.noConfusion h⟩, y.trans (x2.trans (Ext.draws _ _)), rfl⟩
                        · by_cases c6 : s2 < 3600
                          · go_upto_if 106 with (first   | (go_at_call 19; (with_reducible refine (hb36.out _).mono ?_); rintro e w9 ⟨rfl, rfl⟩)   | (go_at_call 19; (with_reducible refine (ha36.out _).mono ?_); rintro e w9 ⟨rfl, rfl⟩)   | (go_at_call 19; (with_reducible refine (hb86.out _).mono ?_); rintro e w9 ⟨rfl, rfl⟩)   | (go_at_call 19; (with_reducible refine (ha86.out _).mono ?_); rintro e w9 ⟨rfl, rfl⟩)   | (go_at_call 20; (with_reducible refine (hbd.out _).mono ?_); rintro e w9 ⟨rfl, rfl⟩)   | (go_at_call 20; (with_reducible refine (had.out _).mono ?_); rintro e w9 ⟨rfl, rfl⟩))
                            go_wp2_with fail
                            go_ret
                            obtain ⟨y, rfl⟩ := HWZ.out
                            exact ⟨⟨false, rfl, fun h => Bool.noConfusion h⟩, y.trans (x2.trans (Ext.draws _ _)), rfl⟩
                          · have HF := Lib.hid (show bf % 3600 = 0 ∧ af % 3600 = 0 ∧ bf - 3600 ≤ af ∧ bf / 86400 = af / 86400 ∧ 3600 ≤ bf % 86400 ∧ 3600 ≤ af % 86400 from by
                              have h1 := HE.out
                              have h2 := C1.out
                              have h3 := C2.out
                              have h4 := C4.out
                              omega)
                            have HBF := Lib.hid (show u + op = bf ∧ u + ou = af from ⟨hbf, haf⟩)
                            go_wp2_with (first   | (go_at_call 19; (with_reducible refine (hb36.out _).mono ?_); rintro e w9 ⟨rfl, rfl⟩)   | (go_at_call 19; (with_reducible refine (ha36.out _).mono ?_); rintro e w9 ⟨rfl, rfl⟩)   | (go_at_call 19; (with_reducible refine (hb86.out _).mono ?_); rintro e w9 ⟨rfl, rfl⟩)   | (go_at_call 19; (with_reducible refine (ha86.out _).mono ?_); rintro e w9 ⟨rfl, rfl⟩)   | (go_at_call 20; (with_reducible refine (hbd.out _).mono ?_); rintro e w9 ⟨rfl, rfl⟩)   | (go_at_call 20; (with_reducible refine (had.out _).mono ?_); rintro e w9 ⟨rfl, rfl⟩))
                            refine ⟨⟨m + 1 + 1, by simp, by omega, by omega, fun j h1 h2 h3 => ?_, x2.trans (Ext.draws _ _), rfl⟩, by simp [intOf]; omega⟩
                            by_cases e : j = m + 1
                            · subst e
                              rw [Nat.add_sub_cancel, HEQ.out.1, HEQ.out.2.1, HEQ.out.2.2.1, HEQ.out.2.2.2, HBF.out.1, HBF.out.2]
                              refine ⟨HB.out.1, HB.out.2, fun h => HBAD.out (by trivial) (by omega), fun b a hb ha => ?_⟩
                              subst hb
                              subst ha
                              exact HF.out
                            · exact HALL.out j h1 (by omega) h3
                      · have k4 : (q1 != q2) = true := bne_iff_ne.2 c4
                        clear c4
                        go_upto_if 106 with (first   | (go_at_call 19; (with_reducible refine (hb36.out _).mono ?_); rintro e w9 ⟨rfl, rfl⟩)   | (go_at_call 19; (with_reducible refine (ha36.out _).mono ?_); rintro e w9 ⟨rfl, rfl⟩)   | (go_at_call 19; (with_reducible refine (hb86.out _).mono ?_); rintro e w9 ⟨rfl, rfl⟩)   | (go_at_call 19; (with_reducible refine (ha86.out _).mono ?_); rintro e w9 ⟨rfl, rfl⟩)   | (go_at_call 20; (with_reducible refine (hbd.out _).mono ?_); rintro e w9 ⟨rfl, rfl⟩)   | (go_at_call 20; (with_reducible refine (had.out _).mono ?_); rintro e w9 ⟨rfl, rfl⟩))
                        go_wp2_with fail
                        go_ret
                        obtain ⟨y, rfl⟩ := HWZ.out
                        exact ⟨⟨false, rfl, fun h => Bool.noConfusion h⟩, y.trans (x2.trans (Ext.draws _ _)), rfl⟩
                  · have k2 : (r2 != 0) = true := bne_iff_ne.2 c2
                    clear c2
                    go_upto_if 91 with (first   | (go_at_call 19; (with_reducible refine (hb36.out _).mono ?_); rintro e w9 ⟨rfl, rfl⟩)   | (go_at_call 19; (with_reducible refine (ha36.out _).mono ?_); rintro e w9 ⟨rfl, rfl⟩)   | (go_at_call 19; (with_reducible refine (hb86.out _).mono ?_); rintro e w9 ⟨rfl, rfl⟩)   | (go_at_call 19; (with_reducible refine (ha86.out _).mono ?_); rintro e w9 ⟨rfl, rfl⟩)   | (go_at_call 20; (with_reducible refine (hbd.out _).mono ?_); rintro e w9 ⟨rfl, rfl⟩)   | (go_at_call 20; (with_reducible refine (had.out _).mono ?_); rintro e w9 ⟨rfl, rfl⟩))
                    go_wp2_with fail
                    go_ret
                    obtain ⟨y, rfl⟩ := HWZ.out
                    exact ⟨⟨false, rfl, fun h => Bool.noConfusion h⟩, y.trans (x2.trans (Ext.draws _ _)), rfl⟩
                · have k1 : (r1 != 0) = true := bne_iff_ne.2 c1
                  clear c1
                  go_upto_if 91 with (first   | (go_at_call 19; (with_reducible refine (hb36.out _).mono ?_); rintro e w9 ⟨rfl, rfl⟩)   | (go_at_call 19; (with_reducible refine (ha36.out _).mono ?_); rintro e w9 ⟨rfl, rfl⟩)   | (go_at_call 19; (with_reducible refine (hb86.out _).mono ?_); rintro e w9 ⟨rfl, rfl⟩)   | (go_at_call 19; (with_reducible refine (ha86.out _).mono ?_); rintro e w9 ⟨rfl, rfl⟩)   | (go_at_call 20; (with_reducible refine (hbd.out _).mono ?_); rintro e w9 ⟨rfl, rfl⟩)   | (go_at_call 20; (with_reducible refine (had.out _).mono ?_); rintro e w9 ⟨rfl, rfl⟩))
                  go_wp2_with fail
                  go_ret
                  obtain ⟨y, rfl⟩ := HWZ.out
                  exact ⟨⟨false, rfl, fun h => Bool.noConfusion h⟩, y.trans (x2.trans (Ext.draws _ _)), rfl⟩
      · have hlt' : ¬ (i : Int) < (W.length : Int) := by omega
        go_wp2_with fail
        go_ret
        obtain ⟨y, rfl⟩ := HWZ.out
        exact ⟨⟨true, rfl, fun _ => ⟨HO1.out, fun j h1 h2 => HALL.out j h1 (by omega) h2⟩⟩, y.trans x, rfl⟩

end Go.Proofs.YtopcjlimjkfoiaaGreatDoor
namespace Go.Proofs.YtopcjlimjkfoiaaGreatDoor
open Go.RowKit
attribute [local go_sem] Ext.cell Ext.frozen Ext.lt Ext.lt_add Ext.cell2 Ext.frozen2

set_option maxRecDepth 100000 in
theorem hasPrefix2_any (s p : ByteArray) (w : World) (hs : s.size < 100000000000) (hp : p.size < 100000000000) :
    Calls Tryz.prog 71 #[.string s, .string p] w fun e w' => e = .returned (.bool (begins (nats s) (nats p))) ∧ w' = w := by
  by_cases h : p.size ≤ s.size
  · have h' : (p.size : Int) ≤ (s.size : Int) := by omega
    have h0 : (0 : Int) ≤ (p.size : Int) := by omega
    have e : begins (nats s) (nats p) = ((s.extract 0 p.size).toList == p.toList) := by
      rw [beq_nats, nats_take, ← nats_length p]; rfl
    rw [e]
    go_enter Tryz.func71, Tryz.ntmps71
    go_wp2_with fail
    go_ret
    exact ⟨rfl, rfl⟩
  · have h' : ¬ (p.size : Int) ≤ (s.size : Int) := by omega
    have e : begins (nats s) (nats p) = false := by
      refine decide_eq_false fun q => ?_
      have := congrArg List.length q
      rw [List.length_take, nats_length, nats_length] at this
      omega
    rw [e]
    go_enter Tryz.func71, Tryz.ntmps71
    go_wp2_with fail
    go_ret
    exact ⟨rfl, rfl⟩

theorem hasPrefix_any (s p : ByteArray) (w : World) (hs : s.size < 100000000000) (hp : p.size < 100000000000) :
    Calls Tryz.prog 42 #[.string s, .string p] w fun e w' => e = .returned (.bool (begins (nats s) (nats p))) ∧ w' = w := by
  have h := Lib.hid (hasPrefix2_any s p w hs hp)
  generalize begins (nats s) (nats p) = b at *
  go_enter Tryz.func42, Tryz.ntmps42
  go_wp2_with (go_at_call 71; (with_reducible refine (h.out).mono ?_); rintro e w9 ⟨rfl, rfl⟩)
  go_ret
  exact ⟨rfl, rfl⟩

set_option maxRecDepth 100000 in
theorem index_yes (s : ByteArray) (c : UInt8) (N : Nat) (hN : N < s.size) (hat : (nats s).getD N 0 = c.toNat) (hno : ∀ j, j < N → (nats s).getD j 0 ≠ c.toNat) (w : World) (hs : s.size < 100000000000) :
    Calls Tryz.prog 43 #[.string s, .string ⟨#[c]⟩] w fun e w' => e = .returned (.int .i64 (N : Nat)) ∧ w' = w := by
  have HAT := Lib.hid hat
  have HNO := Lib.hid hno
  have hsz : (⟨#[c]⟩ : ByteArray).size = 1 := rfl
  clear hat hno
  go_enter Tryz.func43, Tryz.ntmps43
  go_wp2_with fail
  go_loopw [5] (fun t wr => ∃ i : Nat, t = .int .i64 i ∧ i ≤ N ∧ wr = w) (fun t _ => N - (intOf t).toNat)
  case atStart => exact ⟨0, rfl, Nat.zero_le _, rfl⟩
  case round =>
    obtain ⟨i, rfl, hi, rfl⟩ := hrel
    have hlt : i < s.size := by omega
    obtain ⟨m, hm⟩ : ∃ m, m = i + 1 := ⟨_, rfl⟩
    have hmi : (i : Int) + 1 = (m : Int) := by omega
    have hlt' : (m : Int) ≤ (s.size : Int) := by omega
    have him : (i : Int) ≤ (m : Int) := by omega
    have hn1 : nats (s.extract i m) = [(nats s).getD i 0] := by rw [hm]; exact ext_one s i hlt
    have HM := Lib.hid hm
    clear hm
    have h0 : (0 : Int) ≤ (i : Int) := by omega
    by_cases e : i = N
    · subst e
      have k0 : ((s.extract i m).toList == ([c] : List UInt8)) = true := by
        rw [lit_nats, hn1, HAT.out]; exact decide_eq_true rfl
      clear hn1
      go_wp2_with fail
      go_ret
      exact ⟨rfl, rfl⟩
    · have k0 : ((s.extract i m).toList == ([c] : List UInt8)) = false := by
        rw [lit_nats, hn1]
        exact decide_eq_false fun h => HNO.out i (by omega) (by simpa using h)
      clear hn1
      go_wp2_with fail
      have := HM.out
      exact ⟨⟨m, rfl, by omega, trivial⟩, by simp [intOf]; omega⟩

set_option maxRecDepth 100000 in
theorem index_no (s : ByteArray) (c : UInt8) (hno : ∀ j, j < s.size → (nats s).getD j 0 ≠ c.toNat) (w : World) (hs : s.size < 100000000000) :
    Calls Tryz.prog 43 #[.string s, .string ⟨#[c]⟩] w fun e w' => e = .returned (.int .i64 (-1)) ∧ w' = w := by
  have HNO := Lib.hid hno
  have hsz : (⟨#[c]⟩ : ByteArray).size = 1 := rfl
  clear hno
  go_enter Tryz.func43, Tryz.ntmps43
  go_wp2_with fail
  go_loopw [5] (fun t wr => ∃ i : Nat, t = .int .i64 i ∧ i ≤ s.size ∧ wr = w) (fun t _ => s.size - (intOf t).toNat)
  case atStart => exact ⟨0, rfl, Nat.zero_le _, rfl⟩
  case round =>
    obtain ⟨i, rfl, hi, rfl⟩ := hrel
    by_cases hlt : i < s.size
    · obtain ⟨m, hm⟩ : ∃ m, m = i + 1 := ⟨_, rfl⟩
      have hmi : (i : Int) + 1 = (m : Int) := by omega
      have hlt' : (m : Int) ≤ (s.size : Int) := by omega
      have him : (i : Int) ≤ (m : Int) := by omega
      have hn1 : nats (s.extract i m) = [(nats s).getD i 0] := by rw [hm]; exact ext_one s i hlt
      have HM := Lib.hid hm
      clear hm
      have h0 : (0 : Int) ≤ (i : Int) := by omega
      have k0 : ((s.extract i m).toList == ([c] : List UInt8)) = false := by
        rw [lit_nats, hn1]
        exact decide_eq_false fun h => HNO.out i (by omega) (by simpa using h)
      clear hn1
      go_wp2_with fail
      have := HM.out
      exact ⟨⟨m, rfl, by omega, trivial⟩, by simp [intOf]; omega⟩
    · have hlt' : ¬ (i : Int) + 1 ≤ (s.size : Int) := by omega
      go_wp2_with fail
      go_ret
      exact ⟨rfl, rfl⟩

theorem space_any (c : Nat) (hc : c < 128) (w : World) : Calls Tryz.prog 74 #[.int .i32 c] w fun e w' => e = .returned (.bool (blank c)) ∧ w' = w := by
  rcases (show c = 9 ∨ c = 10 ∨ c = 11 ∨ c = 12 ∨ c = 13 ∨ c = 32 ∨ (c ≠ 9 ∧ c ≠ 10 ∧ c ≠ 11 ∧ c ≠ 12 ∧ c ≠ 13 ∧ c ≠ 32) by omega) with rfl | rfl | rfl | rfl | rfl | rfl | ⟨h1, h2, h3, h4, h5, h6⟩
  iterate 6
    · go_enter Tryz.func74, Tryz.ntmps74
      go_wp2
      go_ret
      exact ⟨rfl, rfl⟩
  · have e : blank c = false := by
      unfold blank
      simp
      omega
    rw [e]
    have k1 : ((c : Int) == 9) = false := beq_eq_false_iff_ne.2 (by omega)
    have k2 : ((c : Int) == 10) = false := beq_eq_false_iff_ne.2 (by omega)
    have k3 : ((c : Int) == 11) = false := beq_eq_false_iff_ne.2 (by omega)
    have k4 : ((c : Int) == 12) = false := beq_eq_false_iff_ne.2 (by omega)
    have k5 : ((c : Int) == 13) = false := beq_eq_false_iff_ne.2 (by omega)
    have k6 : ((c : Int) == 32) = false := beq_eq_false_iff_ne.2 (by omega)
    have k7 : ((c : Int) == 133) = false := beq_eq_false_iff_ne.2 (by omega)
    have k8 : ((c : Int) == 160) = false := beq_eq_false_iff_ne.2 (by omega)
    have k9 : ((c : Int) == 5760) = false := beq_eq_false_iff_ne.2 (by omega)
    have k10 : ((c : Int) == 8232) = false := beq_eq_false_iff_ne.2 (by omega)
    have k11 : ((c : Int) == 8233) = false := beq_eq_false_iff_ne.2 (by omega)
    have k12 : ((c : Int) == 8239) = false := beq_eq_false_iff_ne.2 (by omega)
    have k13 : ((c : Int) == 8287) = false := beq_eq_false_iff_ne.2 (by omega)
    have k14 : ((c : Int) == 12288) = false := beq_eq_false_iff_ne.2 (by omega)
    have k15 : ¬ (8192 : Int) ≤ (c : Int) := by omega
    clear h1 h2 h3 h4 h5 h6 e
    go_enter Tryz.func74, Tryz.ntmps74
    go_wp2
    go_ret
    exact ⟨rfl, rfl⟩

theorem decode_ascii (s : ByteArray) (h0 : 0 < s.size) (hc : (s[0]'h0).toNat < 128) (w : World) :
    Calls Tryz.prog 73 #[.string s] w fun e w' => e = .returned (.tuple #[.int .i32 ((s[0]'h0).toNat : Nat), .int .i64 1]) ∧ w' = w := by
  have k0 : (s.toList == ([] : List UInt8)) = false := by
    rw [lit_nats]
    exact decide_eq_false (fun e => by have h9 : s.size = 0 := (nats_length s).symm.trans (congrArg List.length e); omega)
  have k1 : (0 : Int) < (s.size : Int) := by omega
  have k2 : ((s[0]'h0).toNat : Int) < 128 := by omega
  go_enter Tryz.func73, Tryz.ntmps73
  go_wp2
  go_ret2
  exact ⟨rfl, rfl⟩

end Go.Proofs.YtopcjlimjkfoiaaGreatDoor
namespace Go.Proofs.YtopcjlimjkfoiaaGreatDoor
open Go.RowKit
attribute [local go_sem] Ext.cell Ext.frozen Ext.lt Ext.lt_add Ext.cell2 Ext.frozen2

theorem dropWhile_app {p : Nat → Bool} : ∀ {a : List Nat} (b : List Nat), (∀ c ∈ a, p c = true) → (a ++ b).dropWhile p = b.dropWhile p
  | [], _, _ => rfl
  | c :: r, b, h => by
    rw [List.cons_append, List.dropWhile_cons, if_pos (h c (List.mem_cons_self ..))]
    exact dropWhile_app b fun x hx => h x (List.mem_cons_of_mem _ hx)

theorem rtrim_app {a : List Nat} {b : List Nat} (h : ∀ c ∈ b, blank c = true) : rtrim (a ++ b) = rtrim a := by
  unfold rtrim
  rw [List.reverse_append, dropWhile_app _ fun c hc => h c (List.mem_reverse.1 hc)]

theorem trim_all {l : List Nat} (h : ∀ c ∈ l, blank c = true) : trimL l = [] := by
  unfold trimL
  have := dropWhile_app (a := l) [] h
  rw [List.append_nil] at this
  rw [this]
  rfl

theorem trim_mid {l : List Nat} {f t : Nat} (hf : f < t) (ht : t ≤ l.length) (h1 : ∀ c ∈ l.take f, blank c = true) (h2 : blank (l.getD f 0) = false) (h3 : blank (l.getD (t - 1) 0) = false) (h4 : ∀ c ∈ l.drop t, blank c = true) : trimL l = (l.take t).drop f := by
  have e1 : l.dropWhile blank = l.drop f := by
    conv => lhs; rw [← List.take_append_drop f l]
    rw [dropWhile_app _ h1, List.drop_eq_getElem_cons (by omega), List.dropWhile_cons, if_neg]
    rw [List.getD_eq_getElem?_getD, List.getElem?_eq_getElem (by omega)] at h2
    simpa using h2
  have e2 : l.drop f = (l.take t).drop f ++ l.drop t := by
    conv => lhs; rw [← List.take_append_drop t l]
    rw [List.drop_append_of_le_length (by rw [List.length_take]; omega)]
  unfold trimL
  rw [e1, e2, rtrim_app h4]
  have e3 : l.take t = l.take (t - 1) ++ [l.getD (t - 1) 0] := by
    have := take_snoc (l := l) (i := t - 1) (by omega)
    rwa [Nat.sub_add_cancel (by omega)] at this
  rw [e3, List.drop_append_of_le_length (by rw [List.length_take]; omega), rtrim_snoc, if_neg (by rw [h3]; decide)]

def TrimRes (s : ByteArray) (e : Ending) : Prop := ∃ x, e = .returned (.string x) ∧ nats x = trimL (nats s)

set_option maxRecDepth 1000000 in
set_option maxHeartbeats 2000000 in
theorem trimSpace_any (s : ByteArray) (hs : s.size < 100000000000) (hf : foreign (nats s) = false) (w : World) :
    Calls Tryz.prog 45 #[.string s] w fun e w' => TrimRes s e ∧ w' = w := by
  have has : ∀ i (h : i < s.size), (s[i]'h).toNat < 128 := fun i h => by
    rw [← nats_at s i h]
    exact foreign_mem hf _ (getD_mem (by rw [nats_length]; exact h))
  have HAS := Lib.hid has
  clear has hf
  go_enter Tryz.func45, Tryz.ntmps45
  go_wp2_with fail
  go_loopw [3, 4, 5] (fun t3 t4 t5 wr => ∃ (i : Nat) (fr : Int) (t : Nat), t5 = .int .i64 i ∧ t3 = .int .i64 fr ∧ t4 = .int .i64 t ∧ i ≤ s.size ∧ ((fr = -1 ∧ t = 0 ∧ ∀ c ∈ (nats s).take i, blank c = true) ∨ (∃ f : Nat, fr = f ∧ f < t ∧ t ≤ i ∧ (∀ c ∈ (nats s).take f, blank c = true) ∧ blank ((nats s).getD f 0) = false ∧ blank ((nats s).getD (t - 1) 0) = false ∧ ∀ j, t ≤ j → j < i → blank ((nats s).getD j 0) = true)) ∧ wr = w) (fun _ _ t _ => s.size - (intOf t).toNat)
  case atStart => exact ⟨0, -1, 0, rfl, rfl, rfl, Nat.zero_le _, .inl ⟨rfl, rfl, fun c h => by simp at h⟩, rfl⟩
  case round =>
    obtain ⟨i, fr, t, rfl, rfl, rfl, hi, hst, rfl⟩ := hrel
    have h0 : (0 : Int) ≤ (i : Int) := by omega
    have h3 : (i : Int) ≤ (s.size : Int) := by omega
    by_cases hlt : i < s.size
    · have hlt' : (i : Int) < (s.size : Int) := by omega
      have hxs : 0 < (s.extract i s.size).size := by rw [ByteArray.size_extract]; omega
      have hx0 : ((s.extract i s.size)[0]'hxs).toNat = (s[i]'hlt).toNat := by
        have h1 := nats_at (s.extract i s.size) 0 hxs
        have h2 := nats_at s i hlt
        rw [← h1, ← h2, nats_drop, List.getD_eq_getElem?_getD, List.getElem?_drop, ← List.getD_eq_getElem?_getD, Nat.add_zero]
      have hdc := Lib.hid (fun (W : World) => (show Calls Tryz.prog 73 #[.string (s.extract i s.size)] W fun e w' => e = .returned (.tuple #[.int .i32 ((s[i]'hlt).toNat : Nat), .int .i64 1]) ∧ w' = W from by
        have := decode_ascii (s.extract i s.size) hxs (by rw [hx0]; exact HAS.out i hlt) W
        rw [hx0] at this
        exact this))
      have hsp := Lib.hid (fun (W : World) => space_any (s[i]'hlt).toNat (HAS.out i hlt) W)
      have hat := Lib.hid (nats_at s i hlt)
      have hl : i < (nats s).length := by rw [nats_length]; exact hlt
      have HST := Lib.hid hst
      clear hx0 hxs
      cases hb : blank (s[i]'hlt).toNat with
      | true =>
        rw [hb] at hsp
        have HB := Lib.hid hb
        clear hb hst
        go_wp2_with (first
          | (go_at_call 73; (with_reducible refine (hdc.out _).mono ?_); rintro e w9 ⟨rfl, rfl⟩)
          | (go_at_call 74; (with_reducible refine (hsp.out _).mono ?_); rintro e w9 ⟨rfl, rfl⟩))
        refine ⟨⟨i + 1, fr, t, by simp, rfl, rfl, by omega, ?_, trivial⟩, by simp [intOf]; omega⟩
        rcases HST.out with ⟨h5, h6, h7⟩ | ⟨f, h5, h6, h7, h8, h9, h10, h11⟩
        · exact .inl ⟨h5, h6, all_snoc (p := fun c => blank c = true) h7 hl (by rw [hat.out]; exact HB.out)⟩
        · refine .inr ⟨f, h5, h6, by omega, h8, h9, h10, fun j hj1 hj2 => ?_⟩
          by_cases e : j = i
          · rw [e, hat.out]; exact HB.out
          · exact h11 j hj1 (by omega)
      | false =>
        rw [hb] at hsp
        have HB := Lib.hid hb
        clear hb
        rcases hst with ⟨rfl, rfl, h7⟩ | ⟨f, rfl, h6, h7, h8, h9, h10, h11⟩
        · have H7 := Lib.hid h7
          clear h7
          go_wp2_with (first
            | (go_at_call 73; (with_reducible refine (hdc.out _).mono ?_); rintro e w9 ⟨rfl, rfl⟩)
            | (go_at_call 74; (with_reducible refine (hsp.out _).mono ?_); rintro e w9 ⟨rfl, rfl⟩))
          exact ⟨⟨i + 1, i, i + 1, by simp, rfl, by simp, by omega, .inr ⟨i, rfl, by omega, by omega, H7.out, by rw [hat.out]; exact HB.out, by rw [Nat.add_sub_cancel, hat.out]; exact HB.out, fun j hj1 hj2 => absurd hj1 (by omega)⟩, trivial⟩, by simp [intOf]; omega⟩
        · have H8 := Lib.hid h8
          have H9 := Lib.hid h9
          have f0 : ¬ (f : Int) < 0 := by omega
          clear h8 h9 h10 h11
          go_wp2_with (first
            | (go_at_call 73; (with_reducible refine (hdc.out _).mono ?_); rintro e w9 ⟨rfl, rfl⟩)
            | (go_at_call 74; (with_reducible refine (hsp.out _).mono ?_); rintro e w9 ⟨rfl, rfl⟩))
          exact ⟨⟨i + 1, f, i + 1, by simp, rfl, by simp, by omega, .inr ⟨f, rfl, by omega, by omega, H8.out, H9.out, by rw [Nat.add_sub_cancel, hat.out]; exact HB.out, fun j hj1 hj2 => absurd hj1 (by omega)⟩, trivial⟩, by simp [intOf]; omega⟩
    · have hlt' : ¬ (i : Int) < (s.size : Int) := by omega
      obtain rfl : i = s.size := by omega
      rcases hst with ⟨rfl, rfl, h7⟩ | ⟨f, rfl, h6, h7, h8, h9, h10, h11⟩
      · have H7 := Lib.hid (trim_all (l := nats s) (by rwa [List.take_of_length_le (by rw [nats_length]; exact Nat.le_refl _)] at h7))
        clear h7
        go_wp2_with fail
        go_ret
        exact ⟨⟨_, rfl, by rw [H7.out]; rfl⟩, rfl⟩
      · have H := Lib.hid (trim_mid (l := nats s) h6 (by rw [nats_length]; exact h7) h8 h9 h10 (fun c hc => by
          obtain ⟨j, hj, rfl⟩ := List.getElem_of_mem hc
          rw [List.length_drop, nats_length] at hj
          have := h11 (t + j) (by omega) (by omega)
          rw [List.getD_eq_getElem?_getD, List.getElem?_eq_getElem (by rw [nats_length]; omega)] at this
          rw [List.getElem_drop]
          exact this))
        have f0 : ¬ (f : Int) < 0 := by omega
        have f1 : (f : Int) ≤ (t : Int) := by omega
        have f2 : (t : Int) ≤ (s.size : Int) := by omega
        have f3 : (0 : Int) ≤ (f : Int) := by omega
        clear h8 h9 h10 h11
        go_wp2_with fail
        go_ret
        exact ⟨⟨_, rfl, by rw [nats_extract, H.out]⟩, rfl⟩

theorem utc_place (w : World) :
    Calls Tryz.prog 61 #[] w fun e w' => (∃ L, e = .returned (.pointer (some ⟨L, 0, none⟩)) ∧ Lpl w' L none utcZn) ∧ ∃ y : Ext w, w' = y.now := by
  go_enter Tryz.func61, Tryz.ntmps61
  go_wp2
  go_ret
  exact ⟨⟨w.heap.size, rfl, .utc (c := 0) (by simp [go_sem]) (by simp [go_sem]) (by simp)⟩, ⟨_, (Below.refl _ _).alloc (Nat.le_refl _) _⟩, rfl⟩

def LoadRes (e : Ending) (w' : World) : Prop := ∃ L, e = .returned (.tuple #[.pointer (some ⟨L, 0, none⟩), .nilIface]) ∧ Lpl w' L none utcZn

theorem load_utc (s : ByteArray) (h : nats s = [] ∨ nats s = utcL) (w : World) :
    Calls Tryz.prog 44 #[.string s] w fun e w' => LoadRes e w' ∧ ∃ y : Ext w, w' = y.now := by
  have hu := Lib.hid (fun (W : World) => utc_place W)
  rcases h with h | h
  · have k0 : (s.toList == ([] : List UInt8)) = true := by rw [lit_nats]; exact decide_eq_true h
    clear h
    go_enter Tryz.func44, Tryz.ntmps44
    go_wp2_with (go_at_call 61; (with_reducible refine (hu.out _).mono ?_); rintro e w9 ⟨⟨L, rfl, hL⟩, y, rfl⟩)
    go_ret2
    exact ⟨⟨L, rfl, hL⟩, y, rfl⟩
  · have k0 : (s.toList == ([] : List UInt8)) = false := by rw [lit_nats, h]; rfl
    have k1 : (s.toList == ([85, 84, 67] : List UInt8)) = true := by rw [lit_nats]; exact decide_eq_true h
    clear h
    go_enter Tryz.func44, Tryz.ntmps44
    go_wp2_with (go_at_call 61; (with_reducible refine (hu.out _).mono ?_); rintro e w9 ⟨⟨L, rfl, hL⟩, y, rfl⟩)
    go_ret2
    exact ⟨⟨L, rfl, hL⟩, y, rfl⟩

theorem load_local (s : ByteArray) (h : nats s = localL) (w : World) :
    Calls Tryz.prog 44 #[.string s] w fun e w' => e = .returned (.tuple #[.pointer none, .nilIface]) ∧ w' = w := by
  have k0 : (s.toList == ([] : List UInt8)) = false := by rw [lit_nats, h]; rfl
  have k1 : (s.toList == ([85, 84, 67] : List UInt8)) = false := by rw [lit_nats, h]; rfl
  have k2 : (s.toList == ([76, 111, 99, 97, 108] : List UInt8)) = true := by rw [lit_nats]; exact decide_eq_true h
  clear h
  go_enter Tryz.func44, Tryz.ntmps44
  go_wp2
  go_ret2
  exact ⟨rfl, rfl⟩

end Go.Proofs.YtopcjlimjkfoiaaGreatDoor
