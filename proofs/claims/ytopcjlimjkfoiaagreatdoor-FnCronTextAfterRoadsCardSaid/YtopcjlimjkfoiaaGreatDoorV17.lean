/-
FnCronTextAfterRoads: the calendar, the schedules, their texts and the zones, part 17 of 34.
-/
import Derived.Test.YtopcjlimjkfoiaaGreatDoorV16
import Derived.Deep.CutBlock
import Derived.Deep.DeepCutAuto
set_option linter.all false
namespace Go.Proofs.YtopcjlimjkfoiaaGreatDoor
open Go.RowKit
attribute [local go_sem] Ext.cell Ext.frozen Ext.lt Ext.lt_add Ext.cell2 Ext.frozen2

def TermFine (L : List Nat) (n : Nat) (rest : List Nat) : Prop :=
  ∃ (D P F U : List Nat) (u d : Nat), L = D ++ (P ++ (F ++ (U ++ rest))) ∧ (∀ c ∈ D, dig c = true) ∧ D.length ≤ 15 ∧ ((P = [] ∧ F = []) ∨ P = [46]) ∧ (∀ c ∈ F, dig c = true) ∧ 0 < D.length + F.length ∧
    (∀ c ∈ U, dig c = false ∧ c ≠ 46) ∧ (∀ c r, rest = c :: r → dig c = true ∨ c = 46) ∧ unitOf U = (u, d) ∧ 0 < u ∧ F.length ≤ d ∧ num D ≤ 4611686018427387904 / u - 1 ∧ n = num D * u + num F * (u / 10 ^ F.length)

def TermRes (s : ByteArray) (e : Ending) : Prop :=
  ∃ (n v : Nat) (rest : ByteArray), e = .returned (.tuple #[.int .i64 n, .string rest, .int .i64 v]) ∧ n ≤ 4611686018427387904 ∧ v ≤ 2 ∧ (v ≠ 0 → rest.size < s.size) ∧ (v = 1 → TermFine (nats s) n (nats rest))

theorem fold_lt : ∀ (l : List Nat) (a : Nat), (∀ c ∈ l, dig c = true) → l.foldl (fun n c => 10 * n + (c - 48)) a < (a + 1) * 10 ^ l.length
  | [], a, _ => by simp
  | c :: r, a, h => by
    have h1 := fold_lt r (10 * a + (c - 48)) fun c hc => h c (List.mem_cons_of_mem _ hc)
    have h2 := dig_iff.1 (h c (List.mem_cons_self ..))
    have h3 : (10 * a + (c - 48) + 1) * 10 ^ r.length ≤ (10 * (a + 1)) * 10 ^ r.length := Nat.mul_le_mul_right _ (by omega)
    have h4 : (a + 1) * 10 ^ (c :: r).length = (10 * (a + 1)) * 10 ^ r.length := by
      rw [List.length_cons, Nat.pow_succ, Nat.mul_comm (10 ^ r.length) 10, ← Nat.mul_assoc, Nat.mul_comm (a + 1) 10]
    rw [List.foldl_cons, h4]
    omega
theorem num_lt {l : List Nat} (h : ∀ c ∈ l, dig c = true) : num l < 10 ^ l.length := by
  have := fold_lt l 0 h
  simpa [num] using this
theorem num_lt_of {l : List Nat} (h : ∀ c ∈ l, dig c = true) (n : Nat) (hn : l.length ≤ n) : num l < 10 ^ n :=
  Nat.lt_of_lt_of_le (num_lt h) (Nat.pow_le_pow_right (by decide) hn)

theorem all_snoc {p : Nat → Prop} {l : List Nat} {i : Nat} (h : ∀ c ∈ l.take i, p c) (hi : i < l.length) (hc : p (l.getD i 0)) : ∀ c ∈ l.take (i + 1), p c := by
  intro c hm
  rw [take_snoc hi] at hm
  rcases List.mem_append.1 hm with hm | hm
  · exact h c hm
  · rw [List.mem_singleton.1 hm]; exact hc

theorem unit_small (l : List Nat) : (unitOf l).1 ≤ 3600000000000 ∧ (unitOf l).2 ≤ 11 := by
  unfold unitOf
  repeat (split; · decide)
  decide

theorem results_tmp3 {fn : Func} {a b c : Tmp} (h : fn.results = #[.tmp a, .tmp b, .tmp c]) (tmps : Array Value) (P : Program) (w : World) :
    (results fn tmps).run P w = .ok (.tuple #[tmps.getD a undef, tmps.getD b undef, tmps.getD c undef]) w := by
  simp [results, h]

set_option maxRecDepth 1000000 in
set_option maxHeartbeats 4000000 in
theorem term_any (s : ByteArray) (w : World) (hs : s.size < 100000000000) :
    Calls Tryz.prog 87 #[.string s] w fun e w' => TermRes s e ∧ ∃ y : Ext w, w' = y.now := by
  go_enter Tryz.func87, Tryz.ntmps87
  go_upto_block 0 with fail
  go_cut [4, 5, 6] (fun t4 t5 t6 wr => ∃ A W vd : Nat, t5 = .int .i64 A ∧ t6 = .int .i64 W ∧ t4 = .int .i64 vd ∧ A ≤ s.size ∧ W < 1000000000000000 ∧ vd ≤ 2 ∧ vd ≠ 0 ∧ (∀ c ∈ (nats s).take A, dig c = true) ∧ (vd = 1 → A ≤ 15 ∧ W = num ((nats s).take A)) ∧ (A < s.size → dig ((nats s).getD A 0) = false) ∧ wr = w)
  case first =>
    go_wp2_with fail
    go_loopw [4, 5, 6] (fun t4 t5 t6 wr => ∃ A W vd : Nat, t5 = .int .i64 A ∧ t6 = .int .i64 W ∧ t4 = .int .i64 vd ∧ A ≤ s.size ∧ W < 1000000000000000 ∧ (∀ c ∈ (nats s).take A, dig c = true) ∧ (A ≤ 15 → vd = 1 ∧ W = num ((nats s).take A)) ∧ (15 < A → vd = 2) ∧ wr = w) (fun _ t _ _ => s.size - (intOf t).toNat)
    case atStart => exact ⟨0, 0, 1, rfl, rfl, rfl, Nat.zero_le _, by decide, fun c h => by simp at h, fun _ => ⟨rfl, rfl⟩, fun h => absurd h (by decide), rfl⟩
    case round =>
      obtain ⟨A, W, vd, rfl, rfl, rfl, hA, hW, hD, hv1, hv2, rfl⟩ := hrel
      have HD := Lib.hid hD
      have HV1 := Lib.hid hv1
      have HV2 := Lib.hid hv2
      clear hD hv1 hv2
      by_cases hlt : A < s.size
      · have hlt' : (A : Int) < (s.size : Int) := by omega
        have hl : A < (nats s).length := by rw [nats_length]; exact hlt
        have hat := Lib.hid (nats_at _ A hlt)
        have HB := Lib.hid (fun w => isDigit_any ((s[A]'hlt).toNat) (UInt8.toNat_lt _) w)
        cases hd : dig ((s[A]'hlt).toNat) with
        | false =>
          rw [hd] at HB
          go_wp2_with (go_at_call 105; (with_reducible refine (HB.out _).mono ?_); rintro e w1 ⟨rfl, rfl⟩)
          go_meet
          case rel =>
            refine ⟨A, W, vd, rfl, rfl, rfl, hA, hW, ?_, ?_, HD.out, fun h => ?_, fun _ => by rw [hat.out]; exact hd, rfl⟩
            · rcases Nat.lt_or_ge 15 A with h | h
              · rw [HV2.out h]; exact Nat.le_refl _
              · rw [(HV1.out h).1]; decide
            · rcases Nat.lt_or_ge 15 A with h | h
              · rw [HV2.out h]; decide
              · rw [(HV1.out h).1]; decide
            · rcases Nat.lt_or_ge 15 A with h2 | h2
              · rw [HV2.out h2] at h; cases h
              · exact ⟨h2, (HV1.out h2).2⟩
        | true =>
          rw [hd] at HB
          have hdd := dig_iff.1 hd
          have c0 : (48 : Int) ≤ ((s[A]'hlt).toNat : Int) := by omega
          have c1 : ((s[A]'hlt).toNat : Int) ≤ 57 := by omega
          have HD2 := Lib.hid (all_snoc (p := fun c => dig c = true) HD.out hl (by rw [hat.out]; exact hd))
          by_cases h15 : A < 15
          · have h15' : (A : Int) < 15 := by omega
            have w0 : (W : Int) < 1000000000000000 := by omega
            go_wp2_with (go_at_call 105; (with_reducible refine (HB.out _).mono ?_); rintro e w1 ⟨rfl, rfl⟩)
            have hn : 10 * W + ((s[A]'hlt).toNat - 48) = num ((nats s).take (A + 1)) := by
              rw [take_snoc hl, num_snoc, hat.out, (HV1.out (by omega)).2]
            refine ⟨⟨A + 1, 10 * W + ((s[A]'hlt).toNat - 48), vd, by simp, by congr 1; omega, rfl, by omega, ?_, HD2.out, fun h => ⟨(HV1.out (by omega)).1, hn⟩, fun h => absurd h (by omega), trivial⟩, by simp [intOf]; omega⟩
            rw [hn]
            exact num_lt_of HD2.out 15 (by rw [List.length_take]; omega)
          · have h15' : ¬ (A : Int) < 15 := by omega
            go_wp2_with (go_at_call 105; (with_reducible refine (HB.out _).mono ?_); rintro e w1 ⟨rfl, rfl⟩)
            exact ⟨⟨A + 1, W, 2, by simp, rfl, rfl, by omega, hW, HD2.out, fun h => absurd h (by omega), fun _ => rfl, trivial⟩, by simp [intOf]; omega⟩
      · have hlt' : ¬ (A : Int) < (s.size : Int) := by omega
        go_wp2_with fail
        go_meet
        case rel =>
          refine ⟨A, W, vd, rfl, rfl, rfl, hA, hW, ?_, ?_, HD.out, fun h => ?_, fun h => absurd h hlt, rfl⟩
          · rcases Nat.lt_or_ge 15 A with h | h
            · rw [HV2.out h]; exact Nat.le_refl _
            · rw [(HV1.out h).1]; decide
          · rcases Nat.lt_or_ge 15 A with h | h
            · rw [HV2.out h]; decide
            · rw [(HV1.out h).1]; decide
          · rcases Nat.lt_or_ge 15 A with h2 | h2
            · rw [HV2.out h2] at h; cases h
            · exact ⟨h2, (HV1.out h2).2⟩
  case rest =>
    obtain ⟨A, W, vd, rfl, rfl, rfl, hA, hW, hv2, hv0, hD, hV, hnd, hwc⟩ := hcut
    subst wc
    have HD := Lib.hid hD
    have HV := Lib.hid hV
    have HND := Lib.hid hnd
    clear hD hV hnd
    go_upto_region 9 with fail
    go_cut [47] (fun t47 wr => ∃ pt : Bool, t47 = .bool pt ∧ (pt = true → A < s.size ∧ (nats s).getD A 0 = 46) ∧ wr = w)
    case first =>
      by_cases hlt : A < s.size
      · have hlt' : (A : Int) < (s.size : Int) := by omega
        by_cases hp : (s[A]'hlt).toNat = 46
        · have hp' : (((s[A]'hlt).toNat : Int) == 46) = true := beq_iff_eq.2 (by omega)
          have HP := Lib.hid (show (nats s).getD A 0 = 46 by rw [nats_at _ A hlt]; exact hp)
          clear hp
          go_wp2_with fail
          go_meet
          case rel => exact ⟨true, rfl, fun _ => ⟨hlt, HP.out⟩, rfl⟩
        · have hp' : (((s[A]'hlt).toNat : Int) == 46) = false := beq_eq_false_iff_ne.2 (by omega)
          go_wp2_with fail
          go_meet
          case rel => exact ⟨false, rfl, fun h => Bool.noConfusion h, rfl⟩
      · have hlt' : ¬ (A : Int) < (s.size : Int) := by omega
        go_wp2_with fail
        go_meet
        case rel => exact ⟨false, rfl, fun h => Bool.noConfusion h, rfl⟩
    case rest =>
      obtain ⟨pt, rfl, hpt, hwc⟩ := hcut
      subst wc
      have HPT := Lib.hid hpt
      clear hpt
      go_upto_if 47 with fail
      go_cut [5, 7, 8, 9] (fun t5 t7 t8 t9 wr => ∃ B part k ct : Nat, t5 = .int .i64 B ∧ t7 = .int .i64 part ∧ t8 = .int .i64 k ∧ t9 = .int .i64 ct ∧ ct = A + k ∧ A ≤ B ∧ B ≤ s.size ∧ k ≤ s.size ∧ part < 100000000000 ∧ (∃ P F, (nats s).drop A = P ++ (F ++ (nats s).drop B) ∧ F.length = k ∧ (∀ c ∈ F, dig c = true) ∧ ((P = [] ∧ F = []) ∨ P = [46]) ∧ (k ≤ 11 → part = num F)) ∧ wr = w)
      case first =>
        cases pt with
        | false =>
          go_wp2_with fail
          go_meet
          case rel => exact ⟨A, 0, 0, A, rfl, rfl, rfl, rfl, rfl, Nat.le_refl _, hA, Nat.zero_le _, by decide, ⟨[], [], by simp, rfl, by simp, .inl ⟨rfl, rfl⟩, fun _ => rfl⟩, rfl⟩
        | true =>
          obtain ⟨hltA, h46⟩ := HPT.out rfl
          have H46 := Lib.hid h46
          clear h46
          go_wp2_with fail
          go_loopw [5, 7, 8] (fun t5 t7 t8 wr => ∃ i part k : Nat, t5 = .int .i64 i ∧ t7 = .int .i64 part ∧ t8 = .int .i64 k ∧ i = A + 1 + k ∧ i ≤ s.size ∧ part < 100000000000 ∧ (∀ c ∈ ((nats s).drop (A + 1)).take k, dig c = true) ∧ (k ≤ 11 → part = num (((nats s).drop (A + 1)).take k)) ∧ wr = w) (fun t _ _ _ => s.size - (intOf t).toNat)
          case atStart => exact ⟨A + 1, 0, 0, by simp, rfl, rfl, rfl, by omega, by decide, fun c h => by simp at h, fun _ => rfl, rfl⟩
          case round =>
            obtain ⟨i, part, k, rfl, rfl, rfl, hik, hi, hpart, hF, hpn, rfl⟩ := hrel
            have hkA : k + A + 1 ≤ s.size := by omega
            have HIK := Lib.hid hik
            have HF := Lib.hid hF
            have HPN := Lib.hid hpn
            clear hik hF hpn
            have HEND := Lib.hid (show (nats s).drop A = [46] ++ (((nats s).drop (A + 1)).take k ++ (nats s).drop i) ∧ (((nats s).drop (A + 1)).take k).length = k from by
              have hl : A < (nats s).length := by rw [nats_length]; exact hltA
              have h1 := List.drop_eq_getElem_cons hl
              have h2 : (nats s)[A] = 46 := by
                have := H46.out
                rwa [List.getD_eq_getElem?_getD, List.getElem?_eq_getElem hl] at this
              rw [h2] at h1
              have h3 : (nats s).drop i = ((nats s).drop (A + 1)).drop k := by rw [List.drop_drop, HIK.out]
              rw [h1, h3, List.take_append_drop]
              refine ⟨rfl, ?_⟩
              rw [List.length_take, List.length_drop, nats_length]
              omega)
            by_cases hlt : i < s.size
            · have hlt' : (i : Int) < (s.size : Int) := by omega
              have hl : k < ((nats s).drop (A + 1)).length := by have := HIK.out; rw [List.length_drop, nats_length]; omega
              have hat := Lib.hid (show ((nats s).drop (A + 1)).getD k 0 = (s[i]'hlt).toNat from by
                rw [List.getD_eq_getElem?_getD, List.getElem?_drop, ← HIK.out, ← List.getD_eq_getElem?_getD, nats_at _ i hlt])
              have HB := Lib.hid (fun w => isDigit_any ((s[i]'hlt).toNat) (UInt8.toNat_lt _) w)
              cases hd : dig ((s[i]'hlt).toNat) with
              | false =>
                rw [hd] at HB
                go_wp2_with (go_at_call 105; (with_reducible refine (HB.out _).mono ?_); rintro e w1 ⟨rfl, rfl⟩)
                go_meet
                case rel => exact ⟨i, part, k, A + k, rfl, rfl, rfl, by simp, rfl, by have := HIK.out; omega, hi, by omega, hpart, ⟨[46], _, HEND.out.1, HEND.out.2, HF.out, .inr rfl, HPN.out⟩, rfl⟩
              | true =>
                rw [hd] at HB
                have hdd := dig_iff.1 hd
                have c0 : (48 : Int) ≤ ((s[i]'hlt).toNat : Int) := by omega
                have c1 : ((s[i]'hlt).toNat : Int) ≤ 57 := by omega
                have HD2 := Lib.hid (all_snoc (p := fun c => dig c = true) HF.out hl (by rw [hat.out]; exact hd))
                have hk0 : (k : Int) < 100000000000 := by omega
                by_cases h11 : k + 1 ≤ 11
                · have h11' : (k : Int) + 1 ≤ 11 := by omega
                  have w0 : (part : Int) < 100000000000 := by omega
                  go_wp2_with (go_at_call 105; (with_reducible refine (HB.out _).mono ?_); rintro e w1 ⟨rfl, rfl⟩)
                  have hn : 10 * part + ((s[i]'hlt).toNat - 48) = num (((nats s).drop (A + 1)).take (k + 1)) := by
                    rw [take_snoc hl, num_snoc, hat.out, HPN.out (by omega)]
                  refine ⟨⟨i + 1, 10 * part + ((s[i]'hlt).toNat - 48), k + 1, by simp, by congr 1; omega, by simp, by have := HIK.out; omega, by omega, ?_, HD2.out, fun _ => hn, trivial⟩, by simp [intOf]; omega⟩
                  rw [hn]
                  exact num_lt_of HD2.out 11 (by rw [List.length_take]; omega)
                · have h11' : decide ((k : Int) + 1 ≤ 11) = false := decide_eq_false (by omega)
                  have H11 := Lib.hid h11'
                  have HK11 := Lib.hid h11
                  clear h11 h11'
                  go_upto_if 65 with (go_at_call 105; (with_reducible refine (HB.out _).mono ?_); rintro e w1 ⟨rfl, rfl⟩)
                  rw [H11.out]
                  go_wp2_with fail
                  exact ⟨⟨i + 1, part, k + 1, by simp, rfl, by simp, by have := HIK.out; omega, by omega, hpart, HD2.out, fun h => absurd h HK11.out, trivial⟩, by simp [intOf]; omega⟩
            · have hlt' : ¬ (i : Int) < (s.size : Int) := by omega
              go_wp2_with fail
              go_meet
              case rel => exact ⟨i, part, k, A + k, rfl, rfl, rfl, by simp, rfl, by have := HIK.out; omega, hi, by omega, hpart, ⟨[46], _, HEND.out.1, HEND.out.2, HF.out, .inr rfl, HPN.out⟩, rfl⟩
      case rest =>
        obtain ⟨B, part, k, ct, rfl, rfl, rfl, rfl, hct, hAB, hB, hk, hpart, hfr, hwc⟩ := hcut
        subst wc
        have HCT := Lib.hid hct
        have HFR := Lib.hid hfr
        clear hct hfr HPT
        go_upto_block 4 with fail
        go_cut [5] (fun t5 wr => ∃ i u : Nat, t5 = .int .i64 i ∧ i = B + u ∧ i ≤ s.size ∧ (∀ c ∈ ((nats s).drop B).take u, dig c = false ∧ c ≠ 46) ∧ (i < s.size → dig ((nats s).getD i 0) = true ∨ (nats s).getD i 0 = 46) ∧ wr = w)
        case first =>
          go_wp2_with fail
          go_loopw [5] (fun t5 wr => ∃ i u : Nat, t5 = .int .i64 i ∧ i = B + u ∧ i ≤ s.size ∧ (∀ c ∈ ((nats s).drop B).take u, dig c = false ∧ c ≠ 46) ∧ wr = w) (fun t _ => s.size - (intOf t).toNat)
          case atStart => exact ⟨B, 0, rfl, rfl, hB, fun c h => by simp at h, rfl⟩
          case round =>
            obtain ⟨i, u, rfl, hiu, hi, hU, rfl⟩ := hrel
            have HIU := Lib.hid hiu
            have HU := Lib.hid hU
            clear hiu hU
            by_cases hlt : i < s.size
            · have hlt' : (i : Int) < (s.size : Int) := by omega
              have hl : u < ((nats s).drop B).length := by have := HIU.out; rw [List.length_drop, nats_length]; omega
              have hat := Lib.hid (show ((nats s).drop B).getD u 0 = (s[i]'hlt).toNat from by
                rw [List.getD_eq_getElem?_getD, List.getElem?_drop, ← HIU.out, ← List.getD_eq_getElem?_getD, nats_at _ i hlt])
              have hat2 := Lib.hid (nats_at _ i hlt)
              have HB := Lib.hid (fun w => isDigit_any ((s[i]'hlt).toNat) (UInt8.toNat_lt _) w)
              cases hd : dig ((s[i]'hlt).toNat) with
              | true =>
                rw [hd] at HB
                go_wp2_with (go_at_call 105; (with_reducible refine (HB.out _).mono ?_); rintro e w1 ⟨rfl, rfl⟩)
                go_meet
                case rel => exact ⟨i, u, rfl, HIU.out, hi, HU.out, fun _ => .inl (by rw [hat2.out]; exact hd), rfl⟩
              | false =>
                rw [hd] at HB
                by_cases hp : (s[i]'hlt).toNat = 46
                · have hp' : (((s[i]'hlt).toNat : Int) == 46) = true := beq_iff_eq.2 (by omega)
                  have hp2 : (((s[i]'hlt).toNat : Int) != 46) = false := by simp [hp]
                  have HP := Lib.hid hp
                  clear hp
                  go_wp2_with (go_at_call 105; (with_reducible refine (HB.out _).mono ?_); rintro e w1 ⟨rfl, rfl⟩)
                  go_meet
                  case rel => exact ⟨i, u, rfl, HIU.out, hi, HU.out, fun _ => .inr (by rw [hat2.out]; exact HP.out), rfl⟩
                · have hp' : (((s[i]'hlt).toNat : Int) == 46) = false := beq_eq_false_iff_ne.2 (by omega)
                  have hp2 : (((s[i]'hlt).toNat : Int) != 46) = true := bne_iff_ne.2 (by omega)
                  have HP := Lib.hid hp
                  clear hp
                  go_wp2_with (go_at_call 105; (with_reducible refine (HB.out _).mono ?_); rintro e w1 ⟨rfl, rfl⟩)
                  exact ⟨⟨i + 1, u + 1, by simp, by have := HIU.out; omega, by omega, all_snoc (p := fun c => dig c = false ∧ c ≠ 46) HU.out hl (by rw [hat.out]; exact ⟨hd, HP.out⟩), trivial⟩, by simp [intOf]; omega⟩
            · have hlt' : ¬ (i : Int) < (s.size : Int) := by omega
              go_wp2_with fail
              go_meet
              case rel => exact ⟨i, u, rfl, HIU.out, hi, HU.out, fun h => absurd h hlt, rfl⟩
        case rest =>
          obtain ⟨i, m, rfl, hiu, hi, hU, hend, hwc⟩ := hcut
          subst wc
          have HIU := Lib.hid hiu
          have HU := Lib.hid hU
          have HEND := Lib.hid hend
          clear hiu hU hend
          have hBi : (B : Int) ≤ (i : Int) := by have := HIU.out; omega
          have hi' : (i : Int) ≤ (s.size : Int) := by omega
          obtain ⟨un, dg, hud⟩ : ∃ un dg : Nat, unitOf (nats (s.extract B i)) = (un, dg) := ⟨_, _, rfl⟩
          have HUN := Lib.hid (fun w => (show Calls Tryz.prog 106 #[.string (s.extract B i)] w fun e w' => e = .returned (.tuple #[.int .i64 (un : Nat), .int .i64 (dg : Nat)]) ∧ w' = w from by
            have := unit_any (s.extract B i) w
            rwa [hud] at this))
          have hun := (unit_small (nats (s.extract B i))).1
          have hdg := (unit_small (nats (s.extract B i))).2
          rw [hud] at hun hdg
          have hun1 : un ≤ 3600000000000 := hun
          have hdg1 : dg ≤ 11 := hdg
          have HUD := Lib.hid hud
          clear hud hun hdg
          go_upto_region 20 with fail
          go_upto_region 21 with (go_at_call 106; (with_reducible refine (HUN.out _).mono ?_); rintro e w1 ⟨rfl, rfl⟩)
          by_cases hc0 : ct = 0 ∨ un = 0
          · by_cases c0 : ct = 0
            · have c0' : ((ct : Int) == 0) = true := beq_iff_eq.2 (by omega)
              have HC := Lib.hid c0
              clear c0 hc0
              go_wp2_with fail
              ((try simp only [Exit.inBlock, Exit.then]); refine bodyPost_ret (results_tmp3 rfl _ _ _) rfl ?_)
              exact ⟨⟨0, 0, _, rfl, by decide, by decide, fun h => absurd rfl h, fun h => absurd h (by decide)⟩, Ext.here _⟩
            · have c0' : ((ct : Int) == 0) = false := beq_eq_false_iff_ne.2 (by omega)
              have c1 : ((un : Int) == 0) = true := beq_iff_eq.2 (by omega)
              clear c0 hc0
              go_wp2_with fail
              ((try simp only [Exit.inBlock, Exit.then]); refine bodyPost_ret (results_tmp3 rfl _ _ _) rfl ?_)
              exact ⟨⟨0, 0, _, rfl, by decide, by decide, fun h => absurd rfl h, fun h => absurd h (by decide)⟩, Ext.here _⟩
          · have c0 : ((ct : Int) == 0) = false := beq_eq_false_iff_ne.2 (by omega)
            have c1 : ((un : Int) == 0) = false := beq_eq_false_iff_ne.2 (by omega)
            have c2 : ¬ (un : Int) = 0 := by omega
            have HC := Lib.hid hc0
            clear hc0
            have HREST := Lib.hid (show (s.extract i s.size).size < s.size from by
              have h1 := HCT.out
              have h2 := HC.out
              have h3 := HIU.out
              obtain ⟨P, F, h4, h5, h6, h7, h8⟩ := HFR.out
              have h9 := congrArg List.length h4
              simp only [List.length_drop, List.length_append, nats_length] at h9
              rw [ByteArray.size_extract]
              omega)
            go_upto_region 23 with fail
            by_cases hk2 : dg < k
            · have hk2' : (dg : Int) < (k : Int) := by omega
              go_wp2_with fail
              refine wp_region_ext (by kernel_rfl) (by kernel_rfl) ?_
              repeat (quiet_step (fail))
              refine wpQuiet_nil ?_
              rintro w1 ⟨y1, rfl⟩
              go_wp2_with fail
              ((try simp only [Exit.inBlock, Exit.then]); refine bodyPost_ret (results_tmp3 rfl _ _ _) rfl ?_)
              exact ⟨⟨0, 2, _, rfl, by decide, by decide, fun _ => HREST.out, fun h => absurd h (by decide)⟩, y1, rfl⟩
            · have hk2' : ¬ (dg : Int) < (k : Int) := by omega
              obtain ⟨Q, hQ⟩ : ∃ Q : Nat, Q = 4611686018427387904 / un := ⟨_, rfl⟩
              have hQi : (4611686018427387904 : Int) / (un : Int) = (Q : Int) := by rw [hQ]; simp
              have hQ1 : 1 ≤ Q := by rw [hQ]; exact (Nat.le_div_iff_mul_le (by omega)).2 (by omega)
              have hQ2 : Q ≤ 4611686018427387904 := by rw [hQ]; exact Nat.div_le_self _ _
              have HQ := Lib.hid hQ
              clear hQ
              by_cases hW2 : Q - 1 < W
              · have hW2' : (Q : Int) - 1 < (W : Int) := by omega
                go_wp2_with fail
                refine wp_region_ext (by kernel_rfl) (by kernel_rfl) ?_
                repeat (quiet_step (fail))
                refine wpQuiet_nil ?_
                rintro w1 ⟨y1, rfl⟩
                go_wp2_with fail
                ((try simp only [Exit.inBlock, Exit.then]); refine bodyPost_ret (results_tmp3 rfl _ _ _) rfl ?_)
                exact ⟨⟨0, 2, _, rfl, by decide, by decide, fun _ => HREST.out, fun h => absurd h (by decide)⟩, y1, rfl⟩
              · have hW2' : ¬ (Q : Int) - 1 < (W : Int) := by omega
                have HW2 := Lib.hid hW2
                clear hW2
                go_upto_block 6 with fail
                go_cut [11] (fun t11 wr => t11 = .int .i64 (un / 10 ^ k : Nat) ∧ wr = w1)
                case first =>
                  clear hQi hW2'
                  go_wp2_with fail
                  go_loopw [11, 125] (fun t11 t125 wr => ∃ q v : Nat, t125 = .int .i64 q ∧ t11 = .int .i64 v ∧ v = un / 10 ^ q ∧ v ≤ 3600000000000 ∧ q ≤ k ∧ wr = w1) (fun _ t _ => k - (intOf t).toNat)
                  case atStart => exact ⟨0, un, rfl, rfl, by simp, by omega, Nat.zero_le _, rfl⟩
                  case round =>
                    obtain ⟨q, v, rfl, rfl, hv, hv3, hq, rfl⟩ := hrel
                    have HVQ := Lib.hid hv
                    clear hv
                    by_cases hlt : q < k
                    · have hlt' : (q : Int) < (k : Int) := by omega
                      have v0 : (v : Int) ≤ 3600000000000 := by omega
                      go_wp2_with fail
                      refine ⟨⟨q + 1, v / 10, by simp, by simp, ?_, by omega, by omega, trivial⟩, by simp [intOf]; omega⟩
                      rw [HVQ.out, Nat.div_div_eq_div_mul, Nat.pow_succ]
                    · have hlt' : ¬ (q : Int) < (k : Int) := by omega
                      obtain rfl : q = k := by omega
                      go_wp2_with fail
                      go_meet
                      case rel => exact ⟨by rw [HVQ.out], rfl⟩
                case rest =>
                  obtain ⟨rfl, hwc⟩ := hcut
                  subst wc
                  obtain ⟨v, hv⟩ : ∃ v : Nat, v = un / 10 ^ k := ⟨_, rfl⟩
                  rw [← hv]
                  obtain ⟨P, F, h4, h5, h6, h7, h8⟩ := HFR.out
                  have h9 := h8 (by omega)
                  have hpk : part < 10 ^ k := by rw [h9, ← h5]; exact num_lt h6
                  obtain ⟨X, hX⟩ : ∃ X : Nat, X = W * un := ⟨_, rfl⟩
                  obtain ⟨Y, hY⟩ : ∃ Y : Nat, Y = part * v := ⟨_, rfl⟩
                  have hXY : X + Y ≤ 4611686018427387904 := by
                    have e1 : Q * un ≤ 4611686018427387904 := by rw [HQ.out]; exact Nat.div_mul_le_self _ _
                    have e2 : W + 1 ≤ Q := by have := HW2.out; omega
                    have e3 : (W + 1) * un ≤ Q * un := Nat.mul_le_mul_right _ e2
                    have e4 : part * v ≤ 10 ^ k * v := Nat.mul_le_mul_right _ (by omega)
                    have e5 : 10 ^ k * v ≤ un := by rw [hv, Nat.mul_comm]; exact Nat.div_mul_le_self _ _
                    have e6 : (W + 1) * un = W * un + un := Nat.succ_mul _ _
                    omega
                  have hXi : (W : Int) * (un : Int) = (X : Int) := by rw [hX]; simp
                  have hYi : (part : Int) * (v : Int) = (Y : Int) := by rw [hY]; simp
                  have HFIN := Lib.hid (show vd = 1 → TermFine (nats s) (X + Y) (nats (s.extract i s.size)) from by
                    intro h1
                    obtain ⟨h10, h11⟩ := HV.out h1
                    have hx : nats (s.extract B i) = ((nats s).drop B).take m := by
                      rw [nats_extract, List.drop_take, HIU.out, Nat.add_sub_cancel_left]
                    refine ⟨(nats s).take A, P, F, ((nats s).drop B).take m, un, dg, ?_, HD.out, ?_, h7, h6, ?_, HU.out, ?_, ?_, by have := HC.out; omega, by omega, ?_, ?_⟩
                    · rw [nats_drop]
                      have e1 : (nats s).drop B = ((nats s).drop B).take m ++ (nats s).drop i := by
                        rw [HIU.out, ← List.drop_drop, List.take_append_drop]
                      rw [← e1, ← h4, List.take_append_drop]
                    · rw [List.length_take]; omega
                    · rw [List.length_take, nats_length, h5]; have := HCT.out; have := HC.out; omega
                    · intro c r hcr
                      rw [nats_drop] at hcr
                      have hl : i < (nats s).length := by
                        rcases Nat.lt_or_ge i (nats s).length with h | h
                        · exact h
                        · rw [List.drop_eq_nil_of_le h] at hcr; cases hcr
                      rw [List.drop_eq_getElem_cons hl] at hcr
                      have := HEND.out (by rw [← nats_length]; exact hl)
                      rw [List.getD_eq_getElem?_getD, List.getElem?_eq_getElem hl] at this
                      cases hcr
                      exact this
                    · rw [← hx]; exact HUD.out
                    · rw [← h11, ← HQ.out]; have := HW2.out; omega
                    · rw [← h11, ← h9, h5, ← hv, hX, hY])
                  clear hX hY hv h4 h5 h6 h7 h8 h9 hpk hQi hW2'
                  have hX2 : (X : Int) + (Y : Int) ≤ 4611686018427387904 := by omega
                  go_upto_region 30 with (go_at_call 106; (with_reducible refine (HUN.out _).mono ?_); rintro e w1 ⟨rfl, rfl⟩)
                  go_wp2_with fail
                  refine wp_region_ext (by kernel_rfl) (by kernel_rfl) ?_
                  repeat (quiet_step (fail))
                  refine wpQuiet_nil ?_
                  rintro w1 ⟨y1, rfl⟩
                  go_wp2_with fail
                  ((try simp only [Exit.inBlock, Exit.then]); refine bodyPost_ret (results_tmp3 rfl _ _ _) rfl ?_)
                  exact ⟨⟨X + Y, vd, _, by simp; rw [wraps_i64 X (by omega) (by omega), wraps_i64 Y (by omega) (by omega), wraps_i64 _ (by omega) (by omega)], hXY, hv2, fun _ => HREST.out, HFIN.out⟩, y1, rfl⟩

end Go.Proofs.YtopcjlimjkfoiaaGreatDoor
namespace Go.Proofs.YtopcjlimjkfoiaaGreatDoor
open Go.RowKit
attribute [local go_sem] Ext.cell Ext.frozen Ext.lt Ext.lt_add Ext.cell2 Ext.frozen2

inductive Terms : List Nat → Nat → Prop where
  | nil : Terms [] 0
  | cons {L rest : List Nat} {n m : Nat} : TermFine L n rest → Terms rest m → Terms L (n + m)

def unsign : List Nat → List Nat
  | [] => []
  | c :: r => if c = 45 ∨ c = 43 then r else c :: r

theorem unsign_cons (c : Nat) (r : List Nat) : unsign (c :: r) = if c = 45 ∨ c = 43 then r else c :: r := rfl

def DurFine (L : List Nat) : Prop := unsign L = [48] ∨ (unsign L ≠ [] ∧ ∃ m, m ≤ 4611686018427387904 ∧ Terms (unsign L) m)
def DurRes (s : ByteArray) (e : Ending) : Prop := ∃ (d : Int) (v : Nat), e = .returned (.tuple #[.int .i64 d, .int .i64 v]) ∧ v ≤ 2 ∧ (v = 1 → DurFine (nats s))

def szOf : Value → Nat
  | .string x => x.size
  | _ => 0

theorem head_nats {s : ByteArray} (h : 0 < s.size) : nats s = (s[0]'h).toNat :: nats (s.extract 1 s.size) := by
  have hl : 0 < (nats s).length := by rw [nats_length]; exact h
  have h1 := List.drop_eq_getElem_cons hl
  have h2 := nats_at s 0 h
  rw [List.getD_eq_getElem?_getD, List.getElem?_eq_getElem hl] at h2
  rw [List.drop_zero] at h1
  rw [nats_drop, h1]
  simp only [List.drop_succ_cons, List.drop_zero]
  have h3 : (nats s)[0] = (s[0]'h).toNat := h2
  rw [h3]

set_option maxRecDepth 1000000 in
set_option maxHeartbeats 4000000 in
theorem duration_any (s : ByteArray) (w : World) (hs : s.size < 100000000000) :
    Calls Tryz.prog 64 #[.string s] w fun e w' => DurRes s e ∧ ∃ y : Ext w, w' = y.now := by
  have ht := Lib.hid (fun (r : ByteArray) (hr : r.size < 100000000000) (W : World) => term_any r W hr)
  have hw := Lib.hid (fun (a b : Nat) (ha : a < 1000) (hb : b < 1000) (W : World) => worse_any a b ha hb W)
  go_enter Tryz.func64, Tryz.ntmps64
  go_upto_region 2 with fail
  go_cut [21] (fun t21 wr => ∃ b : Bool, t21 = .bool b ∧ (b = true → 0 < s.size ∧ unsign (nats s) = nats (s.extract 1 s.size)) ∧ (b = false → unsign (nats s) = nats s) ∧ wr = w)
  case first =>
    by_cases h0 : 0 < s.size
    · have k0 : (s.toList == ([] : List UInt8)) = false := by
        rw [lit_nats]
        exact decide_eq_false (fun e => by have h9 : s.size = 0 := (nats_length s).symm.trans (congrArg List.length e); omega)
      have k1 : (0 : Int) < (s.size : Int) := by omega
      have hh := head_nats h0
      have HH := Lib.hid hh
      clear hh
      by_cases h45 : (s[0]'h0).toNat = 45
      · have c1 : (((s[0]'h0).toNat : Int) == 45) = true := beq_iff_eq.2 (by omega)
        have H45 := Lib.hid h45
        clear h45
        go_wp2_with fail
        go_meet
        case rel => exact ⟨true, rfl, fun _ => ⟨h0, by rw [HH.out]; rw [unsign_cons, if_pos (.inl H45.out)]⟩, fun h => Bool.noConfusion h, rfl⟩
      · have c1 : (((s[0]'h0).toNat : Int) == 45) = false := beq_eq_false_iff_ne.2 (by omega)
        have H45 := Lib.hid h45
        by_cases h43 : (s[0]'h0).toNat = 43
        · have c2 : (((s[0]'h0).toNat : Int) == 43) = true := beq_iff_eq.2 (by omega)
          have H43 := Lib.hid h43
          clear h45 h43
          go_wp2_with fail
          go_meet
          case rel => exact ⟨true, rfl, fun _ => ⟨h0, by rw [HH.out]; rw [unsign_cons, if_pos (.inr H43.out)]⟩, fun h => Bool.noConfusion h, rfl⟩
        · have c2 : (((s[0]'h0).toNat : Int) == 43) = false := beq_eq_false_iff_ne.2 (by omega)
          have H43 := Lib.hid h43
          clear h45 h43
          go_wp2_with fail
          go_meet
          case rel => exact ⟨false, rfl, fun h => Bool.noConfusion h, fun _ => by rw [HH.out]; rw [unsign_cons, if_neg (fun h => h.elim H45.out H43.out)], rfl⟩
    · have k0 : (s.toList == ([] : List UInt8)) = true := by
        rw [lit_nats]
        exact decide_eq_true (List.length_eq_zero_iff.1 (by rw [nats_length]; omega))
      go_wp2_with fail
      go_meet
      case rel =>
        refine ⟨false, rfl, fun h => Bool.noConfusion h, fun _ => ?_, rfl⟩
        have : nats s = [] := List.length_eq_zero_iff.1 (by rw [nats_length]; omega)
        rw [this]
        rfl
  case rest =>
    obtain ⟨b, rfl, hb1, hb2, hwc⟩ := hcut
    subst wc
    have HB1 := Lib.hid hb1
    have HB2 := Lib.hid hb2
    clear hb1 hb2
    go_upto_if 21 with fail
    go_cut [0, 4] (fun t0 t4 wr => ∃ (r : ByteArray) (ng : Bool), t0 = .string r ∧ t4 = .bool ng ∧ nats r = unsign (nats s) ∧ r.size ≤ s.size ∧ ∃ y : Ext w, wr = y.now)
    case first =>
      cases b with
      | false =>
        go_wp2_with fail
        go_meet
        case rel => exact ⟨s, false, rfl, rfl, (HB2.out (by trivial)).symm, Nat.le_refl _, Ext.here _⟩
      | true =>
        obtain ⟨h0, hu⟩ := HB1.out (by trivial)
        have HU := Lib.hid hu
        clear hu
        have k1 : (0 : Int) < (s.size : Int) := by omega
        have k2 : (1 : Int) ≤ (s.size : Int) := by omega
        go_wp2_with fail
        refine wp_region_ext (by kernel_rfl) (by kernel_rfl) ?_
        repeat (quiet_step (fail))
        refine wpQuiet_nil ?_
        rintro w1 ⟨y1, rfl⟩
        go_wp2_with fail
        go_meet
        case rel => exact ⟨_, _, rfl, rfl, HU.out.symm, by rw [ByteArray.size_extract]; omega, y1, rfl⟩
    case rest =>
      obtain ⟨r, ng, rfl, rfl, hr, hrs, y, rfl⟩ := hcut
      have HR := Lib.hid hr
      clear hr HB1 HB2
      by_cases hz : nats r = [48]
      · have k0 : (r.toList == ([48] : List UInt8)) = true := by rw [lit_nats]; exact decide_eq_true hz
        have HZ := Lib.hid hz
        clear hz
        go_wp2_with fail
        go_ret2
        exact ⟨⟨0, 1, rfl, by decide, fun _ => .inl (by rw [← HR.out]; exact HZ.out)⟩, y, rfl⟩
      · have k0 : (r.toList == ([48] : List UInt8)) = false := by rw [lit_nats]; exact decide_eq_false hz
        have HZ := Lib.hid hz
        clear hz
        by_cases he : nats r = []
        · have k1 : (r.toList == ([] : List UInt8)) = true := by rw [lit_nats]; exact decide_eq_true he
          have HE := Lib.hid he
          clear he
          go_wp2_with fail
          go_ret2
          exact ⟨⟨0, 0, rfl, by decide, fun h => absurd h (by decide)⟩, y, rfl⟩
        · have k1 : (r.toList == ([] : List UInt8)) = false := by rw [lit_nats]; exact decide_eq_false he
          have HE := Lib.hid he
          clear he
          go_wp2_with fail
          go_loopw [0, 5, 6] (fun t0 t5 t6 wr => ∃ (q : ByteArray) (S vd : Nat), t0 = .string q ∧ t5 = .int .i64 S ∧ t6 = .int .i64 vd ∧ q.size ≤ r.size ∧ S ≤ 4611686018427387904 ∧ (vd = 1 ∨ vd = 2) ∧ (vd = 1 → ∀ m, Terms (nats q) m → Terms (nats r) (S + m)) ∧ ∃ x : Ext w, wr = x.now) (fun t _ _ _ => szOf t)
          case atStart => exact ⟨r, 0, 1, rfl, rfl, rfl, Nat.le_refl _, by decide, .inl rfl, fun _ m h => by rw [Nat.zero_add]; exact h, y, rfl⟩
          case round =>
            obtain ⟨q, S, vd, rfl, rfl, rfl, hq, hS, hvd, hall, x, rfl⟩ := hrel
            have HALL := Lib.hid hall
            clear hall k0 k1
            by_cases hqe : nats q = []
            · have k2 : (q.toList == ([] : List UInt8)) = true := by rw [lit_nats]; exact decide_eq_true hqe
              have HQE := Lib.hid hqe
              clear hqe
              rcases hvd with rfl | rfl
              · cases ng
                · go_wp2_with fail
                  go_ret2
                  refine ⟨⟨S, 1, rfl, by decide, fun _ => .inr ⟨by rw [← HR.out]; exact HE.out, S, hS, ?_⟩⟩, x, rfl⟩
                  have := HALL.out (by trivial) 0 (by rw [HQE.out]; exact Terms.nil)
                  rwa [HR.out, Nat.add_zero] at this
                · go_wp2_with fail
                  go_ret2
                  refine ⟨⟨-S, 1, rfl, by decide, fun _ => .inr ⟨by rw [← HR.out]; exact HE.out, S, hS, ?_⟩⟩, x, rfl⟩
                  have := HALL.out (by trivial) 0 (by rw [HQE.out]; exact Terms.nil)
                  rwa [HR.out, Nat.add_zero] at this
              · go_wp2_with fail
                go_ret2
                exact ⟨⟨0, 2, rfl, by decide, fun h => absurd h (by decide)⟩, x, rfl⟩
            · have k2 : (q.toList == ([] : List UInt8)) = false := by rw [lit_nats]; exact decide_eq_false hqe
              clear hqe
              have htq := Lib.hid (ht.out q (by omega))
              have hvd2 : vd ≤ 2 := by omega
              have HVD := Lib.hid hvd
              clear hvd
              go_wp2_with (go_at_call 87; (with_reducible refine (htq.out _).mono ?_))
              rintro e w1 ⟨⟨n, v, rest, rfl, hn, hv, hrest, hfine⟩, z, rfl⟩
              have HREST := Lib.hid hrest
              have HFINE := Lib.hid hfine
              have HWW := Lib.hid (hw.out vd v (by omega) (by omega))
              clear hrest hfine
              by_cases hv0 : v = 0
              · have hw0 : ((worseV vd v : Nat) : Int) = 0 := by unfold worseV; rw [if_pos (.inr hv0)]; rfl
                rw [hw0] at HWW
                clear hv0 hw0
                go_wp2_with (go_at_call 26; (with_reducible refine (HWW.out _).mono ?_); rintro e w2 ⟨rfl, rfl⟩)
                go_ret2
                exact ⟨⟨0, 0, rfl, by decide, fun h => absurd h (by decide)⟩, x.trans z, rfl⟩
              · have hw1 : worseV vd v = 1 ∨ worseV vd v = 2 := by
                  have := HVD.out
                  unfold worseV
                  rw [if_neg (by omega)]
                  omega
                have hwf := worse_fine (a := vd) (b := v)
                obtain ⟨V, hV⟩ : ∃ V, V = worseV vd v := ⟨_, rfl⟩
                rw [← hV] at HWW hw1 hwf
                have HWF := Lib.hid hwf
                have hsz := HREST.out hv0
                clear hV hwf hv0
                have hV0 : ((V : Int) == 0) = false := beq_eq_false_iff_ne.2 (by omega)
                have n0 : (n : Int) ≤ 4611686018427387904 := by omega
                by_cases hov : 4611686018427387904 - n < S
                · have hov' : (4611686018427387904 : Int) - (n : Int) < (S : Int) := by omega
                  clear hov
                  go_wp2_with (go_at_call 26; (with_reducible refine (HWW.out _).mono ?_); rintro e w2 ⟨rfl, rfl⟩)
                  exact ⟨⟨rest, S, 2, rfl, by simp, rfl, by omega, hS, .inr rfl, fun h => absurd h (by decide), x.trans z, rfl⟩, by simp only [szOf]; exact hsz⟩
                · have hov' : ¬ (4611686018427387904 : Int) - (n : Int) < (S : Int) := by omega
                  have s1 : (S : Int) + (n : Int) ≤ 4611686018427387904 := by omega
                  have s2 : S + n ≤ 4611686018427387904 := by omega
                  clear hov
                  go_wp2_with (go_at_call 26; (with_reducible refine (HWW.out _).mono ?_); rintro e w2 ⟨rfl, rfl⟩)
                  refine ⟨⟨rest, S + n, V, rfl, by simp, rfl, by omega, s2, hw1, fun h m hm => ?_, x.trans z, rfl⟩, by simp only [szOf]; exact hsz⟩
                  obtain ⟨h1, h2⟩ := HWF.out.1 h
                  rw [Nat.add_assoc]
                  exact HALL.out h1 _ (.cons (HFINE.out h2) hm)

end Go.Proofs.YtopcjlimjkfoiaaGreatDoor
