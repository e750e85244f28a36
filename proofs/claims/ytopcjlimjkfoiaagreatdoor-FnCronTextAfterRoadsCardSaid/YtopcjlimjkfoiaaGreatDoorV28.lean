/-
FnCronTextAfterRoads: the calendar, the schedules, their texts and the zones, part 28 of 34.
-/
import Derived.Test.YtopcjlimjkfoiaaGreatDoorV27
set_option linter.all false
namespace Go.Proofs.YtopcjlimjkfoiaaGreatDoor
open Go.RowKit
attribute [local go_sem] Ext.cell Ext.frozen Ext.lt Ext.lt_add Ext.cell2 Ext.frozen2

set_option maxRecDepth 1000000 in
set_option maxHeartbeats 4000000 in
theorem pdur_any (s : ByteArray) (hs : s.size < 100000000000) (hf : DurFine (nats s)) : ∃ d : Int, (-4611686018427387904 ≤ d ∧ d ≤ 4611686018427387904) ∧ ∀ w, Calls Tryz.prog 76 #[.string s] w fun e w' => e = .returned (.tuple #[.int .i64 d, .nilIface]) ∧ ∃ y : Ext w, w' = y.now := by
  have h0 : 0 < s.size := by
    rcases Nat.eq_zero_or_pos s.size with e | e
    · have : nats s = [] := List.length_eq_zero_iff.1 (by rw [nats_length]; exact e)
      rw [this] at hf
      rcases hf with h | ⟨h, _⟩
      · cases h
      · exact absurd rfl h
    · exact e
  obtain ⟨ng, hng⟩ : ∃ ng : Bool, ng = decide ((s[0]'h0).toNat = 45) := ⟨_, rfl⟩
  obtain ⟨d, hd⟩ : ∃ d : Int, (unsign (nats s) = [48] ∧ d = 0) ∨ (unsign (nats s) ≠ [48] ∧ unsign (nats s) ≠ [] ∧ ∃ m : Nat, m ≤ 4611686018427387904 ∧ Terms (unsign (nats s)) m ∧ d = if ng then -(m : Int) else (m : Int)) := by
    by_cases h48 : unsign (nats s) = [48]
    · exact ⟨0, .inl ⟨h48, rfl⟩⟩
    · rcases hf with h | ⟨h, m, hm, hT⟩
      · exact absurd h h48
      · exact ⟨_, .inr ⟨h48, h, m, hm, hT, rfl⟩⟩
  have hbd : -4611686018427387904 ≤ d ∧ d ≤ 4611686018427387904 := by
    rcases hd with ⟨_, h⟩ | ⟨_, _, m, hm, _, h⟩
    · omega
    · cases ng <;> simp at h <;> omega
  have HD := Lib.hid hd
  have HNG := Lib.hid hng
  clear hd hng hf
  refine ⟨d, hbd, fun w => ?_⟩
  clear hbd
  have k0 : (s.toList == ([] : List UInt8)) = false := by
    rw [lit_nats]
    exact decide_eq_false (fun e => by have h9 : s.size = 0 := (nats_length s).symm.trans (congrArg List.length e); omega)
  have k9 : s.toList.isEmpty = false := by rw [← List.beq_nil_eq]; exact k0
  go_enter Tryz.func76, Tryz.ntmps76
  go_upto_if 23 with fail
  go_cut [0, 6] (fun t0 t6 wr => ∃ r : ByteArray, t0 = .string r ∧ t6 = .bool ng ∧ nats r = unsign (nats s) ∧ r.size ≤ s.size ∧ wr = w)
  case first =>
    have k1 : (0 : Int) < (s.size : Int) := by omega
    have k2 : (1 : Int) ≤ (s.size : Int) := by omega
    have hh := head_nats h0
    have HH := Lib.hid hh
    clear hh
    by_cases h45 : (s[0]'h0).toNat = 45
    · have c1 : (((s[0]'h0).toNat : Int) == 45) = true := beq_iff_eq.2 (by omega)
      have H45 := Lib.hid h45
      clear h45
      go_wp2_with fail
      go_meet
      case rel => exact ⟨_, rfl, by rw [HNG.out, decide_eq_true H45.out], by rw [HH.out, unsign_cons, if_pos (.inl H45.out)], by rw [ByteArray.size_extract]; omega, rfl⟩
    · have c1 : (((s[0]'h0).toNat : Int) == 45) = false := beq_eq_false_iff_ne.2 (by omega)
      have H45 := Lib.hid h45
      by_cases h43 : (s[0]'h0).toNat = 43
      · have c2 : (((s[0]'h0).toNat : Int) == 43) = true := beq_iff_eq.2 (by omega)
        have H43 := Lib.hid h43
        clear h45 h43
        go_wp2_with fail
        go_meet
        case rel => exact ⟨_, rfl, by rw [HNG.out, decide_eq_false H45.out], by rw [HH.out, unsign_cons, if_pos (.inr H43.out)], by rw [ByteArray.size_extract]; omega, rfl⟩
      · have c2 : (((s[0]'h0).toNat : Int) == 43) = false := beq_eq_false_iff_ne.2 (by omega)
        have H43 := Lib.hid h43
        clear h45 h43
        go_wp2_with fail
        go_meet
        case rel => exact ⟨s, rfl, by rw [HNG.out, decide_eq_false H45.out], by rw [HH.out, unsign_cons, if_neg (fun h => h.elim H45.out H43.out)], Nat.le_refl _, rfl⟩
  case rest =>
    obtain ⟨r, rfl, rfl, hr, hrs, hwc⟩ := hcut
    subst wc
    rw [← hr] at HD
    clear hr HNG
    have hd := HD.out
    clear HD
    rcases hd with ⟨hz, rfl⟩ | ⟨hz, he, m0, hm0, hT, hdv⟩
    · have k0 : (r.toList == ([48] : List UInt8)) = true := by rw [lit_nats]; exact decide_eq_true hz
      clear hz
      go_wp2_with fail
      go_ret2
      exact ⟨rfl, Ext.here _⟩
    · have k0 : (r.toList == ([48] : List UInt8)) = false := by rw [lit_nats]; exact decide_eq_false hz
      have k1 : (r.toList == ([] : List UInt8)) = false := by rw [lit_nats]; exact decide_eq_false he
      have HT := Lib.hid hT
      have HDV := Lib.hid hdv
      clear hz he hT hdv
      go_wp2_with fail
      go_loopw [0, 5] (fun t0 t5 wr => ∃ (q : ByteArray) (S m : Nat), t0 = .string q ∧ t5 = .int .u64 S ∧ Terms (nats q) m ∧ S + m = m0 ∧ q.size ≤ s.size ∧ ∃ x : Ext w, wr = x.now) (fun t _ _ => szOf t)
      case atStart => exact ⟨r, 0, m0, rfl, rfl, HT.out, Nat.zero_add _, hrs, Ext.here _⟩
      case round =>
        obtain ⟨q, S, m, rfl, rfl, hTq, hSm, hq, x, rfl⟩ := hrel
        clear k0 k1 HT
        by_cases hqe : nats q = []
        · have k2 : (q.toList == ([] : List UInt8)) = true := by rw [lit_nats]; exact decide_eq_true hqe
          have k9 : q.toList.isEmpty = true := by rw [← List.beq_nil_eq]; exact k2
          rw [hqe] at hTq
          have hm := terms_nil hTq
          have w0 : ¬ 9223372036854775807 < (S : Int) := by omega
          have w1 : (S : Int) < 9223372036854775808 := by omega
          have HS := Lib.hid (show S = m0 by omega)
          clear hTq hqe hSm hm
          cases ng
          · go_wp2_with fail
            go_ret2
            refine ⟨?_, x, rfl⟩
            rw [HDV.out, HS.out]
            rfl
          · go_wp2_with fail
            go_ret2
            refine ⟨?_, x, rfl⟩
            rw [HDV.out, HS.out]
            simp
        · have k2 : (q.toList == ([] : List UInt8)) = false := by rw [lit_nats]; exact decide_eq_false hqe
          have k9 : q.toList.isEmpty = false := by rw [← List.beq_nil_eq]; exact k2
          obtain ⟨n, k, rest, hmk, htf, hTr⟩ := terms_cons hTq hqe
          obtain ⟨D, P, F, U, u, c, hp⟩ := term_parts htf
          have HP := Lib.hid hp
          have HTR := Lib.hid hTr
          have hlen := congrArg List.length hp.eq
          simp only [List.length_append, nats_length] at hlen
          have hq0 : 0 < q.size := by have := hp.some; omega
          have hx0 := hp.first
          rw [nats_at q 0 hq0] at hx0
          obtain ⟨lD, lF, somE, u0, u1⟩ : D.length ≤ 15 ∧ F.length ≤ 11 ∧ 0 < D.length + F.length ∧ 0 < u ∧ u ≤ 3600000000000 := ⟨hp.lD, hp.lF, hp.some, hp.u0, hp.u1⟩
          have hnb : S + n + k = m0 := by omega
          have HSM := Lib.hid hnb
          have HLEN := Lib.hid hlen
          have hqD : D.length ≤ q.size := by omega
          clear hTq hqe htf hTr hSm hmk hnb hlen
          clear hp
          go_upto_region 17 with fail
          go_cut [59] (fun t59 wr => t59 = .bool false ∧ wr = x.now)
          case first =>
            have q0 : (0 : Int) < (q.size : Int) := by omega
            rcases hx0 with h | h
            · have h2 := dig_iff.1 h
              have c1 : (((q[0]'hq0).toNat : Int) == 46) = false := beq_eq_false_iff_ne.2 (by omega)
              have c2 : (48 : Int) ≤ ((q[0]'hq0).toNat : Int) := by omega
              have c3 : ((q[0]'hq0).toNat : Int) ≤ 57 := by omega
              clear h
              go_wp2_with fail
              go_meet
              case rel => exact ⟨rfl, rfl⟩
            · have c1 : (((q[0]'hq0).toNat : Int) == 46) = true := beq_iff_eq.2 (by omega)
              clear h
              go_wp2_with fail
              go_meet
              case rel => exact ⟨rfl, rfl⟩
          case rest => as_aux_lemma =>
            obtain ⟨rfl, hwc⟩ := hcut
            subst wc
            clear hx0
            obtain ⟨r1, hr1⟩ : ∃ r1 : ByteArray, r1 = q.extract D.length q.size := ⟨_, rfl⟩
            have hs1 : r1.size = q.size - D.length := by rw [hr1, ByteArray.size_extract]; omega
            have hn1 : nats r1 = P ++ (F ++ (U ++ rest)) := by rw [hr1, nats_drop, HP.out.eq, List.drop_left]
            have HLI := Lib.hid (fun W => (show Calls Tryz.prog 95 #[.string q] W fun e w' => e = .returned (.tuple #[.int .u64 (num D : Nat), .string r1, .nilIface]) ∧ ∃ y : Ext W, w' = y.now from by
              have := lead_int q D.length (by omega) (by omega) lD (by rw [HP.out.eq, List.take_left]; exact HP.out.dD) (fun _ => HP.out.endD) W
              rwa [← hr1, show (nats q).take D.length = D from by rw [HP.out.eq, List.take_left]] at this))
            have HN1 := Lib.hid hn1
            have hr1q : r1.size ≤ q.size := by omega
            have HS1 := Lib.hid hs1
            have hu0 : 0 < U.length := List.length_pos_iff.2 HP.out.nU
            clear hr1 hn1 hs1
            obtain ⟨V, hV⟩ : ∃ V : Nat, V = num D := ⟨_, rfl⟩
            obtain ⟨G, hG⟩ : ∃ G : Nat, G = num F := ⟨_, rfl⟩
            obtain ⟨X, hX⟩ : ∃ X : Nat, X = dbl (10 ^ F.length) := ⟨_, rfl⟩
            rw [← hV] at HLI
            have HV := Lib.hid hV
            have HG := Lib.hid hG
            have HX := Lib.hid hX
            clear hV hG hX
            obtain ⟨pb, hpb⟩ : ∃ pb : Bool, pb = decide (D.length = 0) := ⟨_, rfl⟩
            have kp : ((q.size : Int) != (r1.size : Int)) = !pb := by
              rw [hpb]
              have hs1 := HS1.out
              by_cases h : D.length = 0
              · rw [decide_eq_true h]; exact bne_eq_false_iff_eq.2 (by omega)
              · rw [decide_eq_false h]; exact bne_iff_ne.2 (by omega)
            have HPB := Lib.hid hpb
            clear hpb
            have hs1' := size_of HN1.out
            simp only [List.length_append] at hs1'
            have h10 : 0 < r1.size := by omega
            have HS1' := Lib.hid hs1'
            clear hs1'
            have q1 : (0 : Int) < (r1.size : Int) := by omega
            have kn : (r1.toList == ([] : List UInt8)) = false := by
              rw [lit_nats]
              exact decide_eq_false (fun e => by have h9 : r1.size = 0 := (nats_length r1).symm.trans (congrArg List.length e); omega)
            have kn9 : r1.toList.isEmpty = false := by rw [← List.beq_nil_eq]; exact kn
            obtain ⟨pd, hpd⟩ : ∃ pd : Bool, (pd = true ∧ P = [46]) ∨ (pd = false ∧ P = [] ∧ F = []) := by
              rcases HP.out.p with h | h
              · exact ⟨false, .inr ⟨rfl, h⟩⟩
              · exact ⟨true, .inl ⟨rfl, h⟩⟩
            have kd : (((r1[0]'h10).toNat : Int) == 46) = pd := by
              have e := nats_at r1 0 h10
              rw [HN1.out] at e
              rcases hpd with ⟨rfl, h⟩ | ⟨rfl, h, h2⟩
              · rw [h] at e
                exact beq_iff_eq.2 (by have : (46 : Nat) = (r1[0]'h10).toNat := e; omega)
              · obtain ⟨y, W1, e1, e2, e3⟩ := HP.out.hU
                rw [h, h2, e1] at e
                exact beq_eq_false_iff_ne.2 (by have : y = (r1[0]'h10).toNat := e; omega)
            have HPD := Lib.hid hpd
            clear hpd
            go_upto_if 88 with (go_at_call 95; (with_reducible refine (HLI.out _).mono ?_); rintro e9 w9 ⟨rfl, y9, rfl⟩; obtain ⟨x, hz⟩ : ∃ z : Ext w, y9.now = z.now := ⟨x.trans y9, rfl⟩; rw [hz]; clear hz)
            go_cut [0, 9, 10, 14] (fun t0 t9 t10 t14 wr => ∃ (r3 : ByteArray) (b14 : Bool), t0 = .string r3 ∧ t9 = .int .u64 (G : Nat) ∧ t10 = .float .f64 X ∧ t14 = .bool b14 ∧ nats r3 = U ++ rest ∧ (pb = true → b14 = true) ∧ ∃ z : Ext w, wr = z.now)
            case first =>
              cases pd with
              | false =>
                go_wp2_with fail
                go_meet
                case rel =>
                  rcases HPD.out with ⟨h, _⟩ | ⟨_, h1, h2⟩
                  · cases h
                  · refine ⟨r1, false, rfl, ?_, ?_, rfl, ?_, ?_, x, rfl⟩
                    · rw [HG.out, h2]; rfl
                    · rw [HX.out, h2]; exact congrArg (Value.float .f64) dbl_one.symm
                    · rw [HN1.out, h1, h2]; rfl
                    · intro h
                      rw [HPB.out] at h
                      have := of_decide_eq_true h
                      rw [h2] at somE
                      simp at somE
                      omega
              | true =>
                have hP : P = [46] := by
                  rcases HPD.out with ⟨_, h⟩ | ⟨h, _⟩
                  · exact h
                  · cases h
                have k11 : (1 : Int) ≤ (r1.size : Int) := by omega
                have hs1' := HS1'.out
                have hn2 : nats (r1.extract 1 r1.size) = F ++ (U ++ rest) := by rw [nats_drop, HN1.out, hP]; rfl
                have hs2 := size_of hn2
                simp only [List.length_append] at hs2
                have hsz2 : (r1.extract 1 r1.size).size = r1.size - 1 := by rw [ByteArray.size_extract]; omega
                obtain ⟨r3, hr3⟩ : ∃ r3 : ByteArray, r3 = (r1.extract 1 r1.size).extract F.length (r1.extract 1 r1.size).size := ⟨_, rfl⟩
                have hs3 : r3.size = (r1.extract 1 r1.size).size - F.length := by rw [hr3, ByteArray.size_extract]; omega
                have hn3 : nats r3 = U ++ rest := by rw [hr3, nats_drop, hn2, List.drop_left]
                have HLF := Lib.hid (fun W => (show Calls Tryz.prog 96 #[.string (r1.extract 1 r1.size)] W fun e w' => e = .returned (.tuple #[.int .u64 (G : Nat), .float .f64 X, .string r3]) ∧ ∃ y : Ext W, w' = y.now from by
                  have := lead_frac (r1.extract 1 r1.size) F.length (by omega) (by omega) lF (by rw [hn2, List.take_left]; exact HP.out.dF) (fun _ => by rw [hn2]; exact HP.out.endF) W
                  rwa [← hr3, show (nats (r1.extract 1 r1.size)).take F.length = F from by rw [hn2, List.take_left], ← HG.out, ← HX.out] at this))
                have HN3 := Lib.hid hn3
                have kq : (((r1.size - 1 : Nat) : Int) != (r3.size : Int)) = !decide (F.length = 0) := by
                  by_cases h : F.length = 0
                  · rw [decide_eq_true h]; exact bne_eq_false_iff_eq.2 (by omega)
                  · rw [decide_eq_false h]; exact bne_iff_ne.2 (by omega)
                obtain ⟨pf, hpf⟩ : ∃ pf : Bool, pf = decide (F.length = 0) := ⟨_, rfl⟩
                rw [← hpf] at kq
                have HPF := Lib.hid hpf
                have HS2 := Lib.hid hs2
                have hr3l : r3.size ≤ r1.size := by omega
                clear hr3 hn2 hn3 hP hpf hs2 hs1' hsz2 hs3
                go_wp2_with (go_at_call 96; (with_reducible refine (HLF.out _).mono ?_); rintro e9 w9 ⟨rfl, y9, rfl⟩; obtain ⟨x, hz⟩ : ∃ z : Ext w, y9.now = z.now := ⟨x.trans y9, rfl⟩; rw [hz]; clear hz)
                go_meet
                case rel =>
                  refine ⟨r3, !pf, rfl, rfl, rfl, rfl, HN3.out, ?_, x, rfl⟩
                  intro h
                  rw [HPB.out] at h
                  have h1 := of_decide_eq_true h
                  rw [HPF.out, decide_eq_false (by omega)]
                  rfl
            case rest => as_aux_lemma =>
              obtain ⟨r3, b14, rfl, rfl, rfl, rfl, hn3, hb14, x, rfl⟩ := hcut
              clear kp kn kn9 kd HPD HLI HPB q1 h10
              have HN3 := Lib.hid hn3
              have hs3 := size_of hn3
              simp only [List.length_append] at hs3
              have HS3 := Lib.hid hs3
              have hr3U : U.length ≤ r3.size := by omega
              have hr3q : r3.size ≤ q.size := by have := HLEN.out; omega
              have hr3q2 : r3.size - U.length < q.size := by have := HLEN.out; omega
              clear hn3 hs3
              go_upto_region 30 with fail
              go_cut [108] (fun t108 wr => t108 = .bool false ∧ wr = x.now)
              case first =>
                cases pb with
                | false =>
                  go_wp2_with fail
                  go_meet
                  case rel => exact ⟨rfl, rfl⟩
                | true =>
                  obtain rfl := hb14 rfl
                  go_wp2_with fail
                  go_meet
                  case rel => exact ⟨rfl, rfl⟩
              case rest => as_aux_lemma =>
                obtain ⟨rfl, hwc⟩ := hcut
                subst wc
                clear hb14
                go_upto_block 2 with fail
                go_cut [16] (fun t16 wr => t16 = .int .i64 (U.length : Nat) ∧ wr = x.now)
                case first =>
                  go_wp2_with fail
                  go_loopw [16] (fun t16 wr => ∃ A : Nat, t16 = .int .i64 A ∧ A ≤ U.length ∧ wr = x.now) (fun t _ => U.length - (intOf t).toNat)
                  case atStart => exact ⟨0, rfl, Nat.zero_le _, rfl⟩
                  case round =>
                    obtain ⟨A, rfl, hA, rfl⟩ := hrel
                    by_cases hlt : A < U.length
                    · have hlt2 : A < r3.size := by omega
                      have hlt' : (A : Int) < (r3.size : Int) := by omega
                      have hu : dig ((r3[A]'hlt2).toNat) = false ∧ (r3[A]'hlt2).toNat ≠ 46 := by
                        rw [← nats_at r3 A hlt2, HN3.out, List.getD_eq_getElem?_getD, List.getElem?_append_left hlt, List.getElem?_eq_getElem hlt, Option.getD_some]
                        exact HP.out.dU _ (List.getElem_mem hlt)
                      obtain ⟨hu1, hu2⟩ := hu
                      have c46 : (((r3[A]'hlt2).toNat : Int) == 46) = false := beq_eq_false_iff_ne.2 (by omega)
                      have hdd : ((r3[A]'hlt2).toNat : Int) < 48 ∨ 57 < ((r3[A]'hlt2).toNat : Int) := by
                        by_cases h1 : 48 ≤ (r3[A]'hlt2).toNat ∧ (r3[A]'hlt2).toNat ≤ 57
                        · rw [dig_iff.2 h1] at hu1; cases hu1
                        · omega
                      clear hu1 hu2
                      rcases hdd with c0 | c0
                      · have c1 : ¬ (48 : Int) ≤ ((r3[A]'hlt2).toNat : Int) := by omega
                        clear c0
                        go_wp2_with fail
                        exact ⟨⟨A + 1, by simp, by omega, trivial⟩, by simp [intOf]; omega⟩
                      · have c1 : (48 : Int) ≤ ((r3[A]'hlt2).toNat : Int) := by omega
                        have c2 : ¬ ((r3[A]'hlt2).toNat : Int) ≤ 57 := by omega
                        clear c0
                        go_wp2_with fail
                        exact ⟨⟨A + 1, by simp, by omega, trivial⟩, by simp [intOf]; omega⟩
                    · obtain rfl : A = U.length := by omega
                      by_cases hsz : U.length < r3.size
                      · have hlt' : (U.length : Int) < (r3.size : Int) := by omega
                        have hu : dig ((r3[U.length]'hsz).toNat) = true ∨ (r3[U.length]'hsz).toNat = 46 := by
                          rw [← nats_at r3 U.length hsz, HN3.out, getD_app]
                          cases rest with
                          | nil => have hs3 := HS3.out; simp at hs3; omega
                          | cons y l => exact HP.out.rest y l rfl
                        rcases hu with h | h
                        · have h2 := dig_iff.1 h
                          have c46 : (((r3[U.length]'hsz).toNat : Int) == 46) = false := beq_eq_false_iff_ne.2 (by omega)
                          have c1 : (48 : Int) ≤ ((r3[U.length]'hsz).toNat : Int) := by omega
                          have c2 : ((r3[U.length]'hsz).toNat : Int) ≤ 57 := by omega
                          clear h h2
                          go_wp2_with fail
                          go_meet
                          case rel => exact ⟨rfl, rfl⟩
                        · have c46 : (((r3[U.length]'hsz).toNat : Int) == 46) = true := beq_iff_eq.2 (by omega)
                          clear h
                          go_wp2_with fail
                          go_meet
                          case rel => exact ⟨rfl, rfl⟩
                      · have hlt' : ¬ (U.length : Int) < (r3.size : Int) := by omega
                        go_wp2_with fail
                        go_meet
                        case rel => exact ⟨rfl, rfl⟩
                case rest => as_aux_lemma =>
                  obtain ⟨rfl, hwc⟩ := hcut
                  subst wc
                  have ku : ((U.length : Int) == 0) = false := beq_eq_false_iff_ne.2 (by omega)
                  have k3 : (U.length : Int) ≤ (r3.size : Int) := by omega
                  have hlk := Lib.hid (fun (W : World) (M : Nat) (hT : Tab W M unitT) => look_unit hT (r3.extract 0 U.length) u (by
                    rw [nats_take, HN3.out, List.take_left]; exact HP.out.lu))
                  obtain ⟨VU, hVU⟩ : ∃ VU : Nat, VU = V * u := ⟨_, rfl⟩
                  obtain ⟨n1, hn1⟩ : ∃ n1 : Nat, n1 = G * c := ⟨_, rfl⟩
                  obtain ⟨Qd, hQd⟩ : ∃ Qd : Nat, Qd = 9223372036854775808 / u := ⟨_, rfl⟩
                  have hnn : n = VU + n1 := by rw [HP.out.n, hVU, hn1, HV.out, HG.out]
                  have hS1 : S + n + k = m0 := HSM.out
                  have hVb : VU ≤ 4611686018427387904 := by omega
                  have hQV : V ≤ Qd := by
                    have h1 := HP.out.v
                    rw [← HV.out] at h1
                    have h2 : 4611686018427387904 / u ≤ 9223372036854775808 / u := Nat.div_le_div_right (by decide)
                    omega
                  have hqc : ¬ (Qd : Int) < (V : Int) := by omega
                  have hqe : (9223372036854775808 : Int) / (u : Int) = (Qd : Int) := by rw [hQd]; exact (big_quo u).1
                  have hqt : Int.tdiv (9223372036854775808 : Int) (u : Int) = (Qd : Int) := by rw [hQd]; exact (big_quo u).2
                  have hqb : Qd ≤ 9223372036854775808 := by rw [hQd]; exact Nat.div_le_self _ _
                  have hqw : IntKind.u64.wrap (Qd : Int) = (Qd : Int) := by
                    have e4 : IntKind.u64.wrap (Qd : Int) = (Qd : Int) % 18446744073709551616 := rfl
                    rw [e4, Int.emod_eq_of_lt (by omega) (by omega)]
                  have hmr : ∀ W : World, (binOp .mul 44 (.int .u64 (V : Nat)) (.int .u64 (u : Nat))).run Tryz.prog W = .ok (.int .u64 (VU : Nat)) W := by
                    intro W
                    rw [hVU]
                    exact u64_mul 44 V u (by omega) W
                  have hmw : IntKind.u64.wrap ((V : Int) * (u : Int)) = (VU : Int) := by
                    have e4 : IntKind.u64.wrap ((V : Int) * (u : Int)) = ((V : Int) * (u : Int)) % 18446744073709551616 := rfl
                    rw [e4, ← Int.natCast_mul, ← hVU, Int.emod_eq_of_lt (by omega) (by omega)]
                  have hn1b : n1 < 3600000000001 := by
                    have h1 : G < 10 ^ F.length := by rw [HG.out]; exact num_lt HP.out.dF
                    have h2 : G * c ≤ 10 ^ F.length * c := Nat.mul_le_mul_right _ (Nat.le_of_lt h1)
                    rw [← HP.out.uc] at h2
                    omega
                  have har : ∀ W : World, (binOp .add 44 (.int .u64 (VU : Nat)) (.int .u64 (n1 : Nat))).run Tryz.prog W = .ok (.int .u64 (n : Nat)) W := by
                    intro W
                    rw [hnn]
                    exact u64_add 44 VU n1 (by omega) W
                  have hnb : ¬ 9223372036854775808 < (n : Int) := by omega
                  have hsr : ∀ W : World, (binOp .add 44 (.int .u64 (S : Nat)) (.int .u64 (n : Nat))).run Tryz.prog W = .ok (.int .u64 ((S + n : Nat) : Int)) W := fun W => u64_add 44 S n (by omega) W
                  have hsb : ¬ 9223372036854775808 < ((S + n : Nat) : Int) := by omega
                  have hvn : ¬ (9223372036854775808 : Int) < (VU : Int) + (n1 : Int) := by omega
                  have HNN := Lib.hid hnn
                  have HN1 := Lib.hid hn1
                  clear hVU hn1 hQd hnn hVb hQV hn1b hS1 hu0
                  go_upto_if 171 with (go_at_call 97; (with_reducible refine (units_any _).mono ?_); rintro e9 w9 ⟨⟨M, rfl, hT⟩, y9, rfl⟩; obtain ⟨x, hz⟩ : ∃ z : Ext w, y9.now = z.now := ⟨x.trans y9, rfl⟩; rw [hz] at hT ⊢; clear hz; have hlk2 := hlk.out _ _ hT; clear hT)
                  go_cut [8] (fun t8 wr => t8 = .int .u64 (n : Nat) ∧ wr = x.now)
                  case first =>
                    by_cases hG : G = 0
                    · have kg : ¬ 0 < (G : Int) := by omega
                      have hnv : n = VU := by rw [HNN.out, HN1.out, hG, Nat.zero_mul, Nat.add_zero]
                      clear hG
                      go_wp2_with fail
                      go_meet
                      case rel => exact ⟨by rw [hnv], rfl⟩
                    · have kg : 0 < (G : Int) := by omega
                      have hG0 : 0 < G := by omega
                      have hc0 := HP.out.c0
                      have hp10 : 0 < 10 ^ F.length := Nat.pow_pos (by decide)
                      have huc := HP.out.uc
                      have hGb : G < 10 ^ F.length := by rw [HG.out]; exact num_lt HP.out.dF
                      have hgc : G * c ≤ u := by rw [huc]; exact Nat.mul_le_mul_right _ (Nat.le_of_lt hGb)
                      have hGu : G ≤ G * c := Nat.le_mul_of_pos_right _ hc0
                      obtain ⟨Y1, hY1⟩ : ∃ Y : Nat, Y = dbl G := ⟨_, rfl⟩
                      obtain ⟨Y2, hY2⟩ : ∃ Y : Nat, Y = dbl u := ⟨_, rfl⟩
                      obtain ⟨Y3, hY3⟩ : ∃ Y : Nat, Y = dbl c := ⟨_, rfl⟩
                      obtain ⟨Y4, hY4⟩ : ∃ Y : Nat, Y = dbl n1 := ⟨_, rfl⟩
                      have hv1 : ∀ W : World, (convert 44 167 (.int .u64 (G : Nat))).run Tryz.prog W = .ok (.float .f64 Y1) W := fun W => by
                        rw [run_convert_int_float W 44 167 .u64 .f64 (G : Int) (by kernel_rfl) (by kernel_rfl), near_zero G hG0 (by omega), hY1]
                      have hv2 : ∀ W : World, (convert 44 167 (.int .u64 (u : Nat))).run Tryz.prog W = .ok (.float .f64 Y2) W := fun W => by
                        rw [run_convert_int_float W 44 167 .u64 .f64 (u : Int) (by kernel_rfl) (by kernel_rfl), near_zero u u0 (by omega), hY2]
                      have hf1 : floatOfInt .f64 (G : Int) = Y1 := by rw [near_zero G hG0 (by omega), hY1]
                      have hf2 : floatOfInt .f64 (u : Int) = Y2 := by rw [near_zero u u0 (by omega), hY2]
                      have hv3 : ∀ W : World, (binOp .quo 167 (.float .f64 Y2) (.float .f64 X)).run Tryz.prog W = .ok (.float .f64 Y3) W := fun W =>
                        run_float_arith W .quo _ .f64 Y2 X Y3 (by rw [hY2, HX.out, hY3, huc]; exact dbl_div _ _ hp10 hc0 (by rw [← huc]; omega))
                      have hv4 : ∀ W : World, (binOp .mul 167 (.float .f64 Y1) (.float .f64 Y3)).run Tryz.prog W = .ok (.float .f64 Y4) W := fun W =>
                        run_float_arith W .mul _ .f64 Y1 Y3 Y4 (by rw [hY1, hY3, hY4, HN1.out]; exact dbl_mul _ _ hG0 hc0 (by omega))
                      have hv5 : ∀ W : World, (convert 167 44 (.float .f64 Y4)).run Tryz.prog W = .ok (.int .u64 (n1 : Nat)) W := fun W =>
                        run_convert_float_int W 167 44 .f64 .u64 Y4 (n1 : Int) (by kernel_rfl) (by kernel_rfl) (by rw [hY4]; exact dbl_int n1 (by rw [HN1.out]; omega) (by rw [HN1.out]; omega))
                      clear hY1 hY2 hY3 hY4 huc hGb hgc hGu hc0 hp10 hG hG0
                      go_wp2_with fail
                      go_meet
                      case rel => exact ⟨by congr 1; have := HNN.out; omega, rfl⟩
                  case rest => as_aux_lemma =>
                    obtain ⟨rfl, hwc⟩ := hcut
                    subst wc
                    go_wp2_with fail
                    go_roundw
                    case rel => exact ⟨_, _, k, rfl, rfl, by rw [nats_drop, HN3.out, List.drop_left]; exact HTR.out, HSM.out, by rw [ByteArray.size_extract]; omega, x, rfl⟩
                    case measure => simp only [szOf, ByteArray.size_extract]; omega

end Go.Proofs.YtopcjlimjkfoiaaGreatDoor
