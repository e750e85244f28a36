/-
FnCronTextAfterRoads: the calendar, the schedules, their texts and the zones, part 33 of 34.
-/
import Derived.Test.YtopcjlimjkfoiaaGreatDoorV32
import Derived.Deep.CutBlock
import Derived.Deep.DeepCutAuto
set_option linter.all false
namespace Go.Proofs.YtopcjlimjkfoiaaGreatDoor
open Go.RowKit Go.Cal
attribute [local go_sem] Ext.cell Ext.frozen Ext.lt Ext.lt_add Ext.cell2 Ext.frozen2

structure Asked (o which : Int) (t : ByteArray) (s n : Int) (O W I : List Int) (nd : Nat) : Prop where
  w0 : -1 ≤ which
  w1 : which < 6
  o0 : 0 ≤ o
  o1 : o < 512
  no : ¬ (o.toNat.testBit 1 = true ∧ o.toNat.testBit 7 = true)
  len : t.size ≤ 65536
  head : zoneHead (nats t) = 0
  s0 : -62135596800 ≤ s
  s1 : s ≤ 253402300799
  n0 : 0 ≤ n
  n1 : n < 1000000000
  good : GoodZ O W I nd
  plain : PlainZ O W I

structure Cx (w : World) (B : Nat) (s n : Int) (vo vd vw vi : Value) (wr : World) : Prop where
  e0 : wr.cell? ⟨B, 0, none⟩ = some (.int .i64 s)
  e1 : wr.cell? ⟨B, 1, none⟩ = some (.int .i64 n)
  e2 : wr.cell? ⟨B + 1, 0, none⟩ = some vo
  e3 : wr.cell? ⟨B + 1, 1, none⟩ = some vd
  e4 : wr.cell? ⟨B + 1, 2, none⟩ = some vw
  e5 : wr.cell? ⟨B + 1, 3, none⟩ = some vi
  l0 : B < wr.heap.size
  l1 : B + 1 < wr.heap.size
  up : ∃ x : Ext w, wr = x.now

theorem Cx.ext {w : World} {B : Nat} {s n : Int} {vo vd vw vi : Value} {wr : World} (h : Cx w B s n vo vd vw vi wr) (x : Ext wr) : Cx w B s n vo vd vw vi x.now := by
  refine ⟨?_, ?_, ?_, ?_, ?_, ?_, x.lt _ h.l0, x.lt _ h.l1, ?_⟩
  · rw [x.cell _ _ h.l0]; exact h.e0
  · rw [x.cell _ _ h.l0]; exact h.e1
  · rw [x.cell _ _ h.l1]; exact h.e2
  · rw [x.cell _ _ h.l1]; exact h.e3
  · rw [x.cell _ _ h.l1]; exact h.e4
  · rw [x.cell _ _ h.l1]; exact h.e5
  · obtain ⟨y, rfl⟩ := h.up
    exact ⟨y.trans x, rfl⟩

structure Sx (G : Nat) (b : Bool) (d a0 a1 a2 a3 a4 a5 : Int) (wr : World) : Prop where
  c0 : wr.cell? ⟨G, 0, none⟩ = some (.bool b)
  c1 : wr.cell? ⟨G, 1, none⟩ = some (.int .i64 d)
  c2 : wr.cell? ⟨G, 2, none⟩ = some (.int .u64 a0)
  c3 : wr.cell? ⟨G, 3, none⟩ = some (.int .u64 a1)
  c4 : wr.cell? ⟨G, 4, none⟩ = some (.int .u64 a2)
  c5 : wr.cell? ⟨G, 5, none⟩ = some (.int .u64 a3)
  c6 : wr.cell? ⟨G, 6, none⟩ = some (.int .u64 a4)
  c7 : wr.cell? ⟨G, 7, none⟩ = some (.int .u64 a5)
  lt : G < wr.heap.size

theorem Sx.ext {G : Nat} {b : Bool} {d a0 a1 a2 a3 a4 a5 : Int} {wr : World} (h : Sx G b d a0 a1 a2 a3 a4 a5 wr) (x : Ext wr) : Sx G b d a0 a1 a2 a3 a4 a5 x.now := by
  refine ⟨?_, ?_, ?_, ?_, ?_, ?_, ?_, ?_, x.lt _ h.lt⟩ <;> rw [x.cell _ _ h.lt]
  · exact h.c0
  · exact h.c1
  · exact h.c2
  · exact h.c3
  · exact h.c4
  · exact h.c5
  · exact h.c6
  · exact h.c7

theorem Sx.new (w : World) (b : Bool) (d a0 a1 a2 a3 a4 a5 : Int) (t : TypeId) : Sx w.heap.size b d a0 a1 a2 a3 a4 a5 (w.alloc (.cells #[.bool b, .int .i64 d, .int .u64 a0, .int .u64 a1, .int .u64 a2, .int .u64 a3, .int .u64 a4, .int .u64 a5] t)) := by
  refine ⟨?_, ?_, ?_, ?_, ?_, ?_, ?_, ?_, by simp⟩ <;> simp [go_sem]

structure Ix (G : Nat) (s n : Int) (wr : World) : Prop where
  c0 : wr.cell? ⟨G, 0, none⟩ = some (.int .i64 s)
  c1 : wr.cell? ⟨G, 1, none⟩ = some (.int .i64 n)
  f0 : wr.frozen? ⟨G, 0, none⟩ = false
  f1 : wr.frozen? ⟨G, 1, none⟩ = false
  lt : G < wr.heap.size

theorem Ix.ext {G : Nat} {s n : Int} {wr : World} (h : Ix G s n wr) (x : Ext wr) : Ix G s n x.now := by
  refine ⟨?_, ?_, ?_, ?_, x.lt _ h.lt⟩
  · rw [x.cell _ _ h.lt]; exact h.c0
  · rw [x.cell _ _ h.lt]; exact h.c1
  · rw [x.frozen _ _ h.lt]; exact h.f0
  · rw [x.frozen _ _ h.lt]; exact h.f1

theorem Ix.new (w : World) (s n : Int) (t : TypeId) : Ix w.heap.size s n (w.alloc (.cells #[.int .i64 s, .int .i64 n] t)) := by
  refine ⟨?_, ?_, ?_, ?_, by simp⟩ <;> simp [go_sem]

set_option maxRecDepth 1000000 in
set_option maxHeartbeats 4000000 in
theorem law_any (o which s n : Int) (t : ByteArray) {w : World} {vo vd vw vi : Value} {O W I : List Int} {nd : Nat} (hO : IRow w vo O) (hD : BRow w vd nd) (hW : IRow w vw W) (hI : IRow w vi I) :
    Calls Tryz.prog 3 #[.int .i64 o, .int .i64 which, .string t, .agg #[.int .i64 s, .int .i64 n], .agg #[vo, vd, vw, vi]] w fun e w' => e = .returned (.bool true) ∧ ∃ y : Ext w, w' = y.now := by
  obtain ⟨oD, cD, rfl, hD'⟩ := id hD
  have HDR := Lib.hid hD
  have hfit := Lib.hid (fun (W9 : World) => (show Calls Tryz.prog 4 #[.agg #[vo, .slice oD nd cD, vw, vi]] W9 fun e w' => FitRes O.length W.length I.length e ∧ ∃ y : Ext W9, w' = y.now from by
    obtain ⟨oO, cO, rfl, _⟩ := hO
    obtain ⟨oW, cW, rfl, _⟩ := hW
    obtain ⟨oI, cI, rfl, _⟩ := hI
    exact fits_more _ _ _ _ _ _ _ _ _ _ _ _ W9))
  have HOR := Lib.hid hO
  have HWR := Lib.hid hW
  have HIR := Lib.hid hI
  have hopt := Lib.hid (fun (W9 : World) => options_any o W9)
  have hzh := Lib.hid (fun (hs : t.size < 100000000000) (W9 : World) => zoneHead_any t W9 hs)
  have hgd := Lib.hid (fun (W9 : World) => good_any s n W9)
  have hgz := Lib.hid (fun (x : Ext w) (hb : O.length ≤ 2147483647 ∧ W.length ≤ 2147483647 ∧ I.length ≤ 2147483647) => goodZone_any oD nd cD (hO.ext x) (hW.ext x) (hI.ext x) (by omega) (by omega) (by omega))
  have hpz := Lib.hid (fun (x : Ext w) (hg : GoodZ O W I nd) => plainZone_any oD nd cD (hO.ext x) (hW.ext x) (hI.ext x) hg)
  clear hO hD hW hI hD'
  go_enter Tryz.func3, Tryz.ntmps3
  go_upto_region 1 with fail
  obtain ⟨W0, hW0⟩ : ∃ W0 : Ext w, (w.alloc (.cells #[.int .i64 s, .int .i64 n] 23)).alloc (.cells #[vo, .slice oD nd cD, vw, vi] 28) = W0.now := ⟨(Ext.one w _).trans (Ext.one _ _), rfl⟩
  have e0 : W0.now.cell? ⟨w.heap.size, 0, none⟩ = some (.int .i64 s) := by rw [← hW0]; simp [go_sem]
  have e1 : W0.now.cell? ⟨w.heap.size, 1, none⟩ = some (.int .i64 n) := by rw [← hW0]; simp [go_sem]
  have e2 : W0.now.cell? ⟨w.heap.size + 1, 0, none⟩ = some (vo) := by rw [← hW0]; simp [go_sem]
  have e3 : W0.now.cell? ⟨w.heap.size + 1, 1, none⟩ = some (.slice oD nd cD) := by rw [← hW0]; simp [go_sem]
  have e4 : W0.now.cell? ⟨w.heap.size + 1, 2, none⟩ = some (vw) := by rw [← hW0]; simp [go_sem]
  have e5 : W0.now.cell? ⟨w.heap.size + 1, 3, none⟩ = some (vi) := by rw [← hW0]; simp [go_sem]
  have l0 : w.heap.size < W0.now.heap.size := by rw [← hW0]; simp; omega
  have l1 : w.heap.size + 1 < W0.now.heap.size := by rw [← hW0]; simp
  rw [hW0]
  clear hW0
  generalize hB : w.heap.size = B at *
  have HB := Lib.hid hB
  clear hB
  go_cut [29] (fun t29 wr => ∃ b : Bool, t29 = .bool b ∧ (b = false → t.size ≤ 2147483647 ∧ O.length ≤ 2147483647 ∧ W.length ≤ 2147483647 ∧ I.length ≤ 2147483647) ∧ ∃ x : Ext W0.now, wr = x.now)
  case first =>
    by_cases hbig : (2147483647 : Int) < (t.size : Int)
    · go_wp2_with fail
      go_meet
      case rel => exact ⟨true, rfl, fun h => Bool.noConfusion h, Ext.here _⟩
    · have HBG := Lib.hid (show t.size ≤ 2147483647 by omega)
      go_wp2_with (go_at_call 4; (with_reducible refine (hfit.out _).mono ?_); rintro e9 w9 ⟨⟨b, rfl, hbb⟩, y9, rfl⟩; have HBB := Lib.hid hbb; clear hbb)
      go_meet
      case rel => exact ⟨!b, rfl, fun h => ⟨HBG.out, HBB.out (by revert h; cases b <;> simp)⟩, y9, rfl⟩
  case rest =>
    obtain ⟨b, rfl, hsz, x1, rfl⟩ := hcut
    cases b with
    | true =>
      clear hsz
      go_wp2_with fail
      go_ret
      exact ⟨rfl, W0.trans x1, rfl⟩
    | false =>
      obtain ⟨hsz2, hszr⟩ := hsz rfl
      have HSZ := Lib.hid hszr
      clear hsz hszr
      go_upto_region 3 with fail
      go_cut [65] (fun t65 wr => ∃ b : Bool, t65 = .bool b ∧ (b = false → Asked o which t s n O W I nd) ∧ ∃ x : Ext W0.now, wr = x.now)
      case first =>
        by_cases h1 : which < -1
        · have hq : ∃ b : Bool, b = true := ⟨_, rfl⟩
          go_wp2_with fail
          go_meet
          case rel => exact ⟨true, rfl, fun h => Bool.noConfusion h, x1, rfl⟩
        · by_cases h2 : 6 ≤ which
          · go_wp2_with fail
            go_meet
            case rel => exact ⟨true, rfl, fun h => Bool.noConfusion h, x1, rfl⟩
          · cases hob : (decide (0 ≤ o) && decide (o < 512) && !(o.toNat.testBit 1 && o.toNat.testBit 7)) with
            | false =>
              rw [hob] at hopt
              go_wp2_with (go_at_call 5; (with_reducible refine (hopt.out _).mono ?_); rintro e9 w9 ⟨rfl, rfl⟩)
              go_meet
              case rel => exact ⟨true, rfl, fun h => Bool.noConfusion h, x1, rfl⟩
            | true =>
              rw [hob] at hopt
              have HOB := Lib.hid hob
              clear hob
              by_cases h3 : (65536 : Int) < (t.size : Int)
              · go_wp2_with (go_at_call 5; (with_reducible refine (hopt.out _).mono ?_); rintro e9 w9 ⟨rfl, rfl⟩)
                go_meet
                case rel => exact ⟨true, rfl, fun h => Bool.noConfusion h, x1, rfl⟩
              · have h3d : decide ((65536 : Int) < (t.size : Int)) = false := decide_eq_false h3
                have HLE := Lib.hid (show t.size ≤ 65536 by omega)
                have hzt := Lib.hid (fun (W9 : World) => zoneHead_any t W9 (by omega))
                obtain ⟨zh, hzh0⟩ : ∃ zh, zh = zoneHead (nats t) := ⟨_, rfl⟩
                rw [← hzh0] at hzt
                have HZH := Lib.hid hzh0
                clear hzh0
                by_cases h4 : (0 : Int) < (zh : Int)
                · go_wp2_with (first
                    | (go_at_call 5; (with_reducible refine (hopt.out _).mono ?_); rintro e9 w9 ⟨rfl, rfl⟩)
                    | (go_at_call 6; (with_reducible refine (hzt.out _).mono ?_); rintro e9 w9 ⟨rfl, rfl⟩))
                  go_meet
                  case rel => exact ⟨true, rfl, fun h => Bool.noConfusion h, x1, rfl⟩
                · clear h3
                  go_wp2_with (first
                    | (go_at_call 5; (with_reducible refine (hopt.out _).mono ?_); rintro e9 w9 ⟨rfl, rfl⟩)
                    | (go_at_call 6; (with_reducible refine (hzt.out _).mono ?_); rintro e9 w9 ⟨rfl, rfl⟩)
                    | (go_at_call 7; (with_reducible refine (hgd.out _).mono ?_)))
                  rintro e9 w9 ⟨⟨bg, rfl, hbg⟩, y2, rfl⟩
                  obtain ⟨x2, hx⟩ : ∃ z : Ext W0.now, y2.now = z.now := ⟨x1.trans y2, rfl⟩
                  rw [hx]
                  clear hx
                  have HBG := Lib.hid hbg
                  clear hbg
                  cases bg with
                  | false =>
                    go_wp2_with fail
                    go_meet
                    case rel => exact ⟨true, rfl, fun h => Bool.noConfusion h, x2, rfl⟩
                  | true =>
                    go_wp2_with (go_at_call 8; (refine (hgz.out (W0.trans x2) HSZ.out).mono ?_))
                    rintro e9 w9 ⟨⟨bz, rfl, hbz⟩, y3, rfl⟩
                    obtain ⟨x3, hx⟩ : ∃ z : Ext W0.now, y3.now = z.now := ⟨x2.trans y3, rfl⟩
                    rw [hx]
                    clear hx
                    have HBZ := Lib.hid hbz
                    clear hbz
                    cases bz with
                    | false =>
                      go_wp2_with fail
                      go_meet
                      case rel => exact ⟨true, rfl, fun h => Bool.noConfusion h, x3, rfl⟩
                    | true =>
                      have HGZ := Lib.hid (HBZ.out (by trivial))
                      go_wp2_with (go_at_call 9; (refine (hpz.out (W0.trans x3) HGZ.out).mono ?_))
                      rintro e9 w9 ⟨⟨bp, rfl, hbp⟩, y4, rfl⟩
                      obtain ⟨x4, hx⟩ : ∃ z : Ext W0.now, y4.now = z.now := ⟨x3.trans y4, rfl⟩
                      rw [hx]
                      clear hx
                      have HBP := Lib.hid hbp
                      clear hbp
                      cases bp with
                      | false =>
                        go_wp2_with fail
                        go_meet
                        case rel => exact ⟨true, rfl, fun h => Bool.noConfusion h, x4, rfl⟩
                      | true =>
                        go_wp2_with fail
                        go_meet
                        case rel =>
                          obtain ⟨s0, s1, n0, n1⟩ := HBG.out (by trivial)
                          have ho := HOB.out
                          simp only [Bool.and_eq_true, decide_eq_true_eq, Bool.not_eq_true', Bool.and_eq_false_iff] at ho
                          obtain ⟨⟨o0, o1⟩, o2⟩ := ho
                          exact ⟨false, rfl, fun _ => ⟨by omega, by omega, o0, o1, fun h => by rcases o2 with o2 | o2 <;> simp_all, HLE.out, by have := HZH.out; omega, s0, s1, n0, n1, HGZ.out, HBP.out (by trivial)⟩, x4, rfl⟩
      case rest =>
        obtain ⟨b, rfl, hAsk, x2, rfl⟩ := hcut
        clear hopt hzh hgd hgz hpz hfit
        cases b with
        | true =>
          clear hAsk
          go_wp2_with fail
          go_ret
          exact ⟨rfl, W0.trans x2, rfl⟩
        | false =>
          have hA := hAsk rfl
          clear hAsk hsz2
          obtain ⟨on, rfl⟩ := Int.eq_ofNat_of_zero_le hA.o0
          have HA := Lib.hid hA
          have wh0 := hA.w0
          have wh1 := hA.w1
          clear hA
          go_upto_if 67 with fail
          go_cut [11, 12] (fun t11 t12 wr => ∃ (hd : ByteArray) (own : Bool), t11 = .string hd ∧ t12 = .bool own ∧ HeadOf t hd own ∧ ∃ x : Ext W0.now, wr = x.now)
          case first =>
            by_cases hw : 0 ≤ which
            · obtain ⟨k, rfl⟩ := Int.eq_ofNat_of_zero_le hw
              have hhd := Lib.hid (fun (W9 : World) => heads_any k (by omega) W9)
              obtain ⟨h, N, hI⟩ := heads_are k (by omega) t
              have hsm := head_small k
              generalize headB k = hb at *
              generalize decide (k < 4) = ow at *
              have HI := Lib.hid hI
              clear hI
              go_wp2_with (go_at_call 10; (with_reducible refine (hhd.out _).mono ?_); rintro e9 w9 ⟨rfl, rfl⟩)
              go_meet
              case rel => exact ⟨_, _, rfl, rfl, .inr ⟨h, N, HI.out, hsm⟩, x2, rfl⟩
            · go_wp2_with fail
              go_meet
              case rel => exact ⟨_, _, rfl, rfl, .inl ⟨rfl, rfl⟩, x2, rfl⟩
          case rest =>
            obtain ⟨hd, own, rfl, rfl, hHO, x3, rfl⟩ := hcut
            clear wh0 wh1
            have HPS := Lib.hid (fun (W9 : World) => spec_any on (by have := HA.out.o1; omega) HA.out.head HA.out.len hHO W9)
            have HTS := Lib.hid (head_size HA.out.len hHO)
            have hcz : hd.size + t.size < 500000000 := by have := HTS.out; rwa [ByteArray.size_append] at this
            have hc1 : (hd.size : Int) + (t.size : Int) ≤ 9223372036854775807 := by omega
            have hc2 : ¬ (9223372036854775807 : Int) < (hd.size : Int) + (t.size : Int) := by omega
            clear hHO
            go_wp2_with (first | ((with_reducible refine at_alloc 41 ?_); refine wpList_alloc_mean rfl _ rfl zeroMean zeroMean_ms info41 ?_) | (go_at_call 11; (with_reducible refine (HPS.out _).mono ?_); rintro e9 w9 ⟨⟨C0, v, rfl, hC0, hv, hf⟩, x9, rfl⟩; obtain ⟨x4, hx⟩ : ∃ z : Ext W0.now, x9.now = z.now := ⟨x3.trans x9, rfl⟩; rw [hx]; have HF := Lib.hid hf; clear hx hf hv))
            intro cs hcs0
            have hM := MB.alloc (w := x4.now) hcs0 41
            obtain ⟨x5, hx5⟩ : ∃ x : Ext W0.now, x4.now.alloc (.cells cs 41) = x.now := ⟨x4.trans (Ext.one _ _), rfl⟩
            have HGle := x4.le
            rw [hx5] at hM ⊢
            generalize x4.now.heap.size = G at *
            clear hx5 hcs0
            by_cases hv1 : v = 1
            · have HFF := Lib.hid (HF.out hv1)
              have kv : ((v : Int) != 1) = false := by rw [hv1]; rfl
              clear hv1 HF
              go_upto_region 11 with ((with_reducible refine at_store 41 ?_); (refine wpList_store_mean rfl _ _ _ rfl G C0 rfl rfl hM hC0 (by kernel_rfl) ?_); intro w5 hw5; obtain ⟨y5, rfl⟩ : ∃ y5 : Ext W0.now, w5 = y5.now := (by obtain ⟨q, hq⟩ := Ext.rows G HGle C0.toList 0 x5; exact ⟨q, by rw [hw5]; exact hq⟩); clear hw5)
              have HCy := Lib.hid (show Cx w B s n vo (.slice oD nd cD) vw vi y5.now from (show Cx w B s n vo (.slice oD nd cD) vw vi W0.now from ⟨e0, e1, e2, e3, e4, e5, l0, l1, W0, rfl⟩).ext y5)
              obtain ⟨wc5, hwc5⟩ : ∃ q, q = y5.now := ⟨_, rfl⟩
              rw [← hwc5] at HCy ⊢
              have HC := Lib.hid HCy.out
              clear hwc5 HCy e0 e1 e2 e3 e4 e5 l0 l1 hM hC0 HPS
              have hno : ¬ (on.testBit 1 = true ∧ on.testBit 7 = true) := HA.out.no
              have ho : on < 512 := by have := HA.out.o1; omega
              obtain ⟨K, hK, hP⟩ := fine_parses w ho hno HTS.out HFF.out
              have hz := zone_plain HA.out.good HA.out.plain
              have hZ : ZoneIn w vo (.slice oD nd cD) vw vi O W I nd := ⟨HOR.out, HDR.out, HWR.out, HIR.out, HA.out.good⟩
              obtain ⟨n0, n1, s0, s1⟩ : 0 ≤ n ∧ n < 1000000000 ∧ -62135596800 ≤ s ∧ s ≤ 253402300799 := ⟨HA.out.n0, HA.out.n1, HA.out.s0, HA.out.s1⟩
              have HPC := Lib.hid (fun (W9 : World) => parseCron_any on ho hno hP W9)
              clear HA HFF HTS HDR HOR HWR HIR
              cases K with
              | every d =>
                obtain ⟨m, x, hN, m0, m1, xx0, xx1⟩ := next_is (.every d) hK hz s n s0 s1
                obtain ⟨sa, na, ba, hans⟩ := ansOf_form m x
                have HTA := Lib.hid (fun (W9 : World) (h9 : ∃ x : Ext w, W9 = x.now) => textAfter_every on ho hno hK hP (w := W9) (by obtain ⟨x9, rfl⟩ := h9; exact hZ.ext x9) hN n0 n1 s0 s1 m0 m1 xx0 xx1 sa na ba hans)
                have HNX := Lib.hid (fun (W9 : World) (h9 : ∃ x : Ext w, W9 = x.now) => implNext_every (w := W9) hK (by obtain ⟨x9, rfl⟩ := h9; exact hZ.ext x9) hz hN n0 n1 s0 s1 m0 m1 xx0 xx1)
                rw [hans] at HNX
                simp only [schV] at HPC HNX
                clear hans hN hP hZ hz hK hno m0 m1 xx0 xx1 n0 n1 s0 s1 ho
                cases own
                · as_aux_lemma =>
                  go_upto_region 12 with (go_at_call 12; (with_reducible refine (HPC.out _).mono ?_); rintro e9 w9 ⟨rfl, y9, rfl⟩)
                  obtain ⟨w1, hw1⟩ : ∃ w1, w1 = y9.now.alloc (.cells #[.bool true, .int .i64 d, .int .u64 0, .int .u64 0, .int .u64 0, .int .u64 0, .int .u64 0, .int .u64 0] 46) := ⟨_, rfl⟩
                  have HC1 := Lib.hid (show Cx w B s n vo (.slice oD nd cD) vw vi w1 from by rw [hw1]; exact (HC.out.ext y9).ext (Ext.one _ _))
                  have HS1 := Lib.hid (show Sx y9.now.heap.size true d 0 0 0 0 0 0 w1 from by rw [hw1]; exact Sx.new _ _ _ _ _ _ _ _ _ _)
                  rw [← hw1]
                  generalize y9.now.heap.size = G1 at *
                  clear hw1 HC
                  obtain ⟨e0, e1, e2, e3, e4, e5, l0, l1, _⟩ := HC1.out
                  go_upto_region 13 with (go_at_call 13; (refine (HTA.out _ HC1.out.up).mono ?_); rintro e9 w9 ⟨rfl, y9, rfl⟩)
                  clear e0 e1 e2 e3 e4 e5 l0 l1
                  obtain ⟨w2, hw2⟩ : ∃ w2, w2 = y9.now.alloc (.cells #[.int .i64 sa, .int .i64 na] 23) := ⟨_, rfl⟩
                  have HC2 := Lib.hid (show Cx w B s n vo (.slice oD nd cD) vw vi w2 from by rw [hw2]; exact (HC1.out.ext y9).ext (Ext.one _ _))
                  have HS2 := Lib.hid (show Sx G1 true d 0 0 0 0 0 0 w2 from by rw [hw2]; exact (HS1.out.ext y9).ext (Ext.one _ _))
                  have HI2 := Lib.hid (show Ix y9.now.heap.size sa na w2 from by rw [hw2]; exact Ix.new _ _ _ _)
                  rw [← hw2]
                  generalize y9.now.heap.size = G2 at *
                  clear hw2 HC1 HS1
                  obtain ⟨e0, e1, e2, e3, e4, e5, l0, l1, _⟩ := HC2.out
                  obtain ⟨c0, c1, c2, c3, c4, c5, c6, c7, lg1⟩ := HS2.out
                  go_upto_region 14 with (go_at_call 14; (refine (HNX.out _ HC2.out.up).mono ?_); rintro e9 w9 ⟨rfl, y9, rfl⟩)
                  clear e0 e1 e2 e3 e4 e5 l0 l1 c0 c1 c2 c3 c4 c5 c6 c7 lg1
                  obtain ⟨w3, hw3⟩ : ∃ w3, w3 = y9.now.alloc (.cells #[.int .i64 sa, .int .i64 na] 23) := ⟨_, rfl⟩
                  have HU3 := Lib.hid (show ∃ x : Ext w, w3 = x.now from by rw [hw3]; exact ((HC2.out.ext y9).ext (Ext.one _ _)).up)
                  have HS3 := Lib.hid (show Sx G1 true d 0 0 0 0 0 0 w3 from by rw [hw3]; exact (HS2.out.ext y9).ext (Ext.one _ _))
                  have HI3 := Lib.hid (show Ix G2 sa na w3 from by rw [hw3]; exact (HI2.out.ext y9).ext (Ext.one _ _))
                  have HJ3 := Lib.hid (show Ix y9.now.heap.size sa na w3 from by rw [hw3]; exact Ix.new _ _ _ _)
                  rw [← hw3]
                  generalize y9.now.heap.size = G3 at *
                  clear hw3 HC2 HS2 HI2
                  obtain ⟨c0, c1, c2, c3, c4, c5, c6, c7, lg1⟩ := HS3.out
                  obtain ⟨i0, i1, if0, if1, li⟩ := HI3.out
                  obtain ⟨j0, j1, jf0, jf1, lj⟩ := HJ3.out
                  go_wp2_with fail
                  go_ret
                  exact ⟨by simp, HU3.out⟩
                · as_aux_lemma =>
                  go_upto_region 12 with (go_at_call 12; (with_reducible refine (HPC.out _).mono ?_); rintro e9 w9 ⟨rfl, y9, rfl⟩)
                  obtain ⟨w1, hw1⟩ : ∃ w1, w1 = y9.now.alloc (.cells #[.bool true, .int .i64 d, .int .u64 0, .int .u64 0, .int .u64 0, .int .u64 0, .int .u64 0, .int .u64 0] 46) := ⟨_, rfl⟩
                  have HC1 := Lib.hid (show Cx w B s n vo (.slice oD nd cD) vw vi w1 from by rw [hw1]; exact (HC.out.ext y9).ext (Ext.one _ _))
                  have HS1 := Lib.hid (show Sx y9.now.heap.size true d 0 0 0 0 0 0 w1 from by rw [hw1]; exact Sx.new _ _ _ _ _ _ _ _ _ _)
                  rw [← hw1]
                  generalize y9.now.heap.size = G1 at *
                  clear hw1 HC
                  obtain ⟨e0, e1, e2, e3, e4, e5, l0, l1, _⟩ := HC1.out
                  go_upto_region 13 with (go_at_call 13; (refine (HTA.out _ HC1.out.up).mono ?_); rintro e9 w9 ⟨rfl, y9, rfl⟩)
                  clear e0 e1 e2 e3 e4 e5 l0 l1
                  obtain ⟨w2, hw2⟩ : ∃ w2, w2 = y9.now.alloc (.cells #[.int .i64 sa, .int .i64 na] 23) := ⟨_, rfl⟩
                  have HC2 := Lib.hid (show Cx w B s n vo (.slice oD nd cD) vw vi w2 from by rw [hw2]; exact (HC1.out.ext y9).ext (Ext.one _ _))
                  have HS2 := Lib.hid (show Sx G1 true d 0 0 0 0 0 0 w2 from by rw [hw2]; exact (HS1.out.ext y9).ext (Ext.one _ _))
                  have HI2 := Lib.hid (show Ix y9.now.heap.size sa na w2 from by rw [hw2]; exact Ix.new _ _ _ _)
                  rw [← hw2]
                  generalize y9.now.heap.size = G2 at *
                  clear hw2 HC1 HS1
                  obtain ⟨e0, e1, e2, e3, e4, e5, l0, l1, _⟩ := HC2.out
                  obtain ⟨c0, c1, c2, c3, c4, c5, c6, c7, lg1⟩ := HS2.out
                  go_upto_region 14 with (go_at_call 14; (refine (HNX.out _ HC2.out.up).mono ?_); rintro e9 w9 ⟨rfl, y9, rfl⟩)
                  clear e0 e1 e2 e3 e4 e5 l0 l1 c0 c1 c2 c3 c4 c5 c6 c7 lg1
                  obtain ⟨w3, hw3⟩ : ∃ w3, w3 = y9.now.alloc (.cells #[.int .i64 sa, .int .i64 na] 23) := ⟨_, rfl⟩
                  have HU3 := Lib.hid (show ∃ x : Ext w, w3 = x.now from by rw [hw3]; exact ((HC2.out.ext y9).ext (Ext.one _ _)).up)
                  have HS3 := Lib.hid (show Sx G1 true d 0 0 0 0 0 0 w3 from by rw [hw3]; exact (HS2.out.ext y9).ext (Ext.one _ _))
                  have HI3 := Lib.hid (show Ix G2 sa na w3 from by rw [hw3]; exact (HI2.out.ext y9).ext (Ext.one _ _))
                  have HJ3 := Lib.hid (show Ix y9.now.heap.size sa na w3 from by rw [hw3]; exact Ix.new _ _ _ _)
                  rw [← hw3]
                  generalize y9.now.heap.size = G3 at *
                  clear hw3 HC2 HS2 HI2
                  obtain ⟨c0, c1, c2, c3, c4, c5, c6, c7, lg1⟩ := HS3.out
                  obtain ⟨i0, i1, if0, if1, li⟩ := HI3.out
                  obtain ⟨j0, j1, jf0, jf1, lj⟩ := HJ3.out
                  go_wp2_with fail
                  go_ret
                  exact ⟨by simp, HU3.out⟩
              | sets f =>
                cases own with
                | false =>
                  obtain ⟨m, x, hN, m0, m1, xx0, xx1⟩ := next_is (.sets f) hK hz s n s0 s1
                  obtain ⟨sa, na, ba, hans⟩ := ansOf_form m x
                  have HTA := Lib.hid (fun (W9 : World) (h9 : ∃ x : Ext w, W9 = x.now) => textAfter_sets on ho hno hP (w := W9) (by obtain ⟨x9, rfl⟩ := h9; exact hZ.ext x9) hz hN n0 n1 s0 s1 m0 m1 xx0 xx1 sa na ba hans)
                  have HNX := Lib.hid (fun (W9 : World) (h9 : ∃ x : Ext w, W9 = x.now) => implNext_sets (w := W9) hK (by obtain ⟨x9, rfl⟩ := h9; exact hZ.ext x9) hz hN n0 n1 s0 s1 m0 m1 xx0 xx1)
                  rw [hans] at HNX
                  simp only [schV] at HPC HNX
                  obtain ⟨a0, h0⟩ : ∃ a : Int, a = f 0 := ⟨_, rfl⟩
                  obtain ⟨a1, h1⟩ : ∃ a : Int, a = f 1 := ⟨_, rfl⟩
                  obtain ⟨a2, h2⟩ : ∃ a : Int, a = f 2 := ⟨_, rfl⟩
                  obtain ⟨a3, h3⟩ : ∃ a : Int, a = f 3 := ⟨_, rfl⟩
                  obtain ⟨a4, h4⟩ : ∃ a : Int, a = f 4 := ⟨_, rfl⟩
                  obtain ⟨a5, h5⟩ : ∃ a : Int, a = f 5 := ⟨_, rfl⟩
                  rw [← h0, ← h1, ← h2, ← h3, ← h4, ← h5] at HPC HNX
                  clear h0 h1 h2 h3 h4 h5 hans hN hP hZ hz hK hno m0 m1 xx0 xx1 n0 n1 s0 s1 ho
                  as_aux_lemma =>
                    go_upto_region 12 with (go_at_call 12; (with_reducible refine (HPC.out _).mono ?_); rintro e9 w9 ⟨rfl, y9, rfl⟩)
                    obtain ⟨w1, hw1⟩ : ∃ w1, w1 = y9.now.alloc (.cells #[.bool false, .int .i64 0, .int .u64 a0, .int .u64 a1, .int .u64 a2, .int .u64 a3, .int .u64 a4, .int .u64 a5] 46) := ⟨_, rfl⟩
                    have HC1 := Lib.hid (show Cx w B s n vo (.slice oD nd cD) vw vi w1 from by rw [hw1]; exact (HC.out.ext y9).ext (Ext.one _ _))
                    have HS1 := Lib.hid (show Sx y9.now.heap.size false 0 a0 a1 a2 a3 a4 a5 w1 from by rw [hw1]; exact Sx.new _ _ _ _ _ _ _ _ _ _)
                    rw [← hw1]
                    generalize y9.now.heap.size = G1 at *
                    clear hw1 HC
                    obtain ⟨e0, e1, e2, e3, e4, e5, l0, l1, _⟩ := HC1.out
                    go_upto_region 13 with (go_at_call 13; (refine (HTA.out _ HC1.out.up).mono ?_); rintro e9 w9 ⟨rfl, y9, rfl⟩)
                    clear e0 e1 e2 e3 e4 e5 l0 l1
                    obtain ⟨w2, hw2⟩ : ∃ w2, w2 = y9.now.alloc (.cells #[.int .i64 sa, .int .i64 na] 23) := ⟨_, rfl⟩
                    have HC2 := Lib.hid (show Cx w B s n vo (.slice oD nd cD) vw vi w2 from by rw [hw2]; exact (HC1.out.ext y9).ext (Ext.one _ _))
                    have HS2 := Lib.hid (show Sx G1 false 0 a0 a1 a2 a3 a4 a5 w2 from by rw [hw2]; exact (HS1.out.ext y9).ext (Ext.one _ _))
                    have HI2 := Lib.hid (show Ix y9.now.heap.size sa na w2 from by rw [hw2]; exact Ix.new _ _ _ _)
                    rw [← hw2]
                    generalize y9.now.heap.size = G2 at *
                    clear hw2 HC1 HS1
                    obtain ⟨e0, e1, e2, e3, e4, e5, l0, l1, _⟩ := HC2.out
                    obtain ⟨c0, c1, c2, c3, c4, c5, c6, c7, lg1⟩ := HS2.out
                    go_upto_region 14 with (go_at_call 14; (refine (HNX.out _ HC2.out.up).mono ?_); rintro e9 w9 ⟨rfl, y9, rfl⟩)
                    clear e0 e1 e2 e3 e4 e5 l0 l1 c0 c1 c2 c3 c4 c5 c6 c7 lg1
                    obtain ⟨w3, hw3⟩ : ∃ w3, w3 = y9.now.alloc (.cells #[.int .i64 sa, .int .i64 na] 23) := ⟨_, rfl⟩
                    have HU3 := Lib.hid (show ∃ x : Ext w, w3 = x.now from by rw [hw3]; exact ((HC2.out.ext y9).ext (Ext.one _ _)).up)
                    have HS3 := Lib.hid (show Sx G1 false 0 a0 a1 a2 a3 a4 a5 w3 from by rw [hw3]; exact (HS2.out.ext y9).ext (Ext.one _ _))
                    have HI3 := Lib.hid (show Ix G2 sa na w3 from by rw [hw3]; exact (HI2.out.ext y9).ext (Ext.one _ _))
                    have HJ3 := Lib.hid (show Ix y9.now.heap.size sa na w3 from by rw [hw3]; exact Ix.new _ _ _ _)
                    rw [← hw3]
                    generalize y9.now.heap.size = G3 at *
                    clear hw3 HC2 HS2 HI2
                    obtain ⟨c0, c1, c2, c3, c4, c5, c6, c7, lg1⟩ := HS3.out
                    obtain ⟨i0, i1, if0, if1, li⟩ := HI3.out
                    obtain ⟨j0, j1, jf0, jf1, lj⟩ := HJ3.out
                    go_wp2_with fail
                    go_ret
                    exact ⟨by simp, HU3.out⟩
                | true =>
                  obtain ⟨m2, x2', hN2, m20, m21, x20, x21⟩ := next_is (.sets f) hK hz s n s0 s1
                  obtain ⟨sb, nb, bb, hans2⟩ := ansOf_form m2 x2'
                  obtain ⟨m, x, hN, m0, m1, xx0, xx1⟩ := next_is (.sets f) hK utc_plain s n s0 s1
                  obtain ⟨sa, na, ba, hans⟩ := ansOf_form m x
                  have HTA := Lib.hid (fun (W9 : World) (h9 : ∃ x : Ext w, W9 = x.now) => textAfter_sets on ho hno hP (w := W9) (by obtain ⟨x9, rfl⟩ := h9; exact hZ.ext x9) hz hN n0 n1 s0 s1 m0 m1 xx0 xx1 sa na ba hans)
                  have HNX := Lib.hid (fun (W9 : World) (h9 : ∃ x : Ext w, W9 = x.now) => implNext_sets (w := W9) hK (by obtain ⟨x9, rfl⟩ := h9; exact hZ.ext x9) hz hN2 n0 n1 s0 s1 m20 m21 x20 x21)
                  have HNI := Lib.hid (fun (W9 : World) (h9 : ∃ x : Ext w, W9 = x.now) => implNextIn_sets (w := W9) hK (by obtain ⟨x9, rfl⟩ := h9; exact hZ.ext x9) hN n0 n1 s0 s1 m0 m1 xx0 xx1)
                  rw [hans2] at HNX
                  rw [hans] at HNI
                  simp only [schV, nilV] at HPC HNX HNI
                  have HUT := Lib.hid (fun (W9 : World) => cronUTC_any W9)
                  simp only [nilV] at HUT
                  obtain ⟨a0, h0⟩ : ∃ a : Int, a = f 0 := ⟨_, rfl⟩
                  obtain ⟨a1, h1⟩ : ∃ a : Int, a = f 1 := ⟨_, rfl⟩
                  obtain ⟨a2, h2⟩ : ∃ a : Int, a = f 2 := ⟨_, rfl⟩
                  obtain ⟨a3, h3⟩ : ∃ a : Int, a = f 3 := ⟨_, rfl⟩
                  obtain ⟨a4, h4⟩ : ∃ a : Int, a = f 4 := ⟨_, rfl⟩
                  obtain ⟨a5, h5⟩ : ∃ a : Int, a = f 5 := ⟨_, rfl⟩
                  rw [← h0, ← h1, ← h2, ← h3, ← h4, ← h5] at HPC HNX HNI
                  clear h0 h1 h2 h3 h4 h5 hans hans2 hN hN2 hP hZ hz hK hno m0 m1 xx0 xx1 m20 m21 x20 x21 n0 n1 s0 s1 ho
                  as_aux_lemma =>
                    go_upto_region 12 with (go_at_call 12; (with_reducible refine (HPC.out _).mono ?_); rintro e9 w9 ⟨rfl, y9, rfl⟩)
                    obtain ⟨w1, hw1⟩ : ∃ w1, w1 = y9.now.alloc (.cells #[.bool false, .int .i64 0, .int .u64 a0, .int .u64 a1, .int .u64 a2, .int .u64 a3, .int .u64 a4, .int .u64 a5] 46) := ⟨_, rfl⟩
                    have HC1 := Lib.hid (show Cx w B s n vo (.slice oD nd cD) vw vi w1 from by rw [hw1]; exact (HC.out.ext y9).ext (Ext.one _ _))
                    have HS1 := Lib.hid (show Sx y9.now.heap.size false 0 a0 a1 a2 a3 a4 a5 w1 from by rw [hw1]; exact Sx.new _ _ _ _ _ _ _ _ _ _)
                    rw [← hw1]
                    generalize y9.now.heap.size = G1 at *
                    clear hw1 HC
                    obtain ⟨e0, e1, e2, e3, e4, e5, l0, l1, _⟩ := HC1.out
                    go_upto_region 13 with (go_at_call 13; (refine (HTA.out _ HC1.out.up).mono ?_); rintro e9 w9 ⟨rfl, y9, rfl⟩)
                    clear e0 e1 e2 e3 e4 e5 l0 l1
                    obtain ⟨w2, hw2⟩ : ∃ w2, w2 = y9.now.alloc (.cells #[.int .i64 sa, .int .i64 na] 23) := ⟨_, rfl⟩
                    have HC2 := Lib.hid (show Cx w B s n vo (.slice oD nd cD) vw vi w2 from by rw [hw2]; exact (HC1.out.ext y9).ext (Ext.one _ _))
                    have HS2 := Lib.hid (show Sx G1 false 0 a0 a1 a2 a3 a4 a5 w2 from by rw [hw2]; exact (HS1.out.ext y9).ext (Ext.one _ _))
                    have HI2 := Lib.hid (show Ix y9.now.heap.size sa na w2 from by rw [hw2]; exact Ix.new _ _ _ _)
                    rw [← hw2]
                    generalize y9.now.heap.size = G2 at *
                    clear hw2 HC1 HS1
                    obtain ⟨e0, e1, e2, e3, e4, e5, l0, l1, _⟩ := HC2.out
                    obtain ⟨c0, c1, c2, c3, c4, c5, c6, c7, lg1⟩ := HS2.out
                    go_upto_region 14 with (go_at_call 14; (refine (HNX.out _ HC2.out.up).mono ?_); rintro e9 w9 ⟨rfl, y9, rfl⟩)
                    clear e0 e1 e2 e3 e4 e5 l0 l1 c0 c1 c2 c3 c4 c5 c6 c7 lg1
                    obtain ⟨Wb, hWb⟩ : ∃ Wb, Wb = y9.now := ⟨_, rfl⟩
                    have HCb := Lib.hid (show Cx w B s n vo (.slice oD nd cD) vw vi Wb from by rw [hWb]; exact HC2.out.ext y9)
                    have HSb := Lib.hid (show Sx G1 false 0 a0 a1 a2 a3 a4 a5 Wb from by rw [hWb]; exact HS2.out.ext y9)
                    have HIb := Lib.hid (show Ix G2 sa na Wb from by rw [hWb]; exact HI2.out.ext y9)
                    rw [← hWb]
                    clear hWb HC2 HS2 HI2
                    obtain ⟨X3, hX3⟩ : ∃ X3 : Ext Wb, Wb.alloc (.cells #[.int .i64 sb, .int .i64 nb] 23) = X3.now := ⟨Ext.one _ _, rfl⟩
                    have HJ3 := Lib.hid (show Ix Wb.heap.size sb nb X3.now from by rw [← hX3]; exact Ix.new _ _ _ _)
                    rw [hX3]
                    clear hX3
                    have hle : Wb.heap.size ≤ Wb.heap.size := Nat.le_refl _
                    obtain ⟨G3, hG3⟩ : ∃ G3, G3 = Wb.heap.size := ⟨_, rfl⟩
                    have HLE := Lib.hid (show Wb.heap.size ≤ G3 by omega)
                    rw [← hG3] at HJ3 ⊢
                    clear hG3 hle
                    obtain ⟨e0, e1, e2, e3, e4, e5, l0, l1, _⟩ := HCb.out
                    obtain ⟨c0, c1, c2, c3, c4, c5, c6, c7, lg1⟩ := HSb.out
                    go_upto_region 15 with fail
                    refine wp_region_plan 9 [(0, false), (2, false), (3, false), (1, true), (4, true), (5, false), (6, false), (7, false), (8, true)] (fun w' => ∃ x : Ext Wb, w' = x.now)
                      (by kernel_rfl) (by kernel_rfl) (fun _ _ d _ _ h => by cases d <;> exact h) ⟨X3.trans (Ext.drewn _), rfl⟩ ?_
                    iterate 3 (refine plan_read rfl (fun K hK => ?_); go_simp; refine hK _ ?_; clear hK K)
                    refine plan_step rfl (fun K hK => ?_); go_simp
                    refine (HUT.out _).mono ?_
                    rintro e9 w9 ⟨rfl, y1, rfl⟩
                    refine hK _ _ ⟨X3.trans ((Ext.drewn _).trans y1), rfl⟩ ?_; clear hK K
                    refine plan_step rfl (fun K hK => ?_); go_simp
                    refine (HNI.out _ (HCb.out.ext (X3.trans ((Ext.drewn _).trans y1))).up).mono ?_
                    rintro e9 w9 ⟨rfl, y2, rfl⟩
                    obtain ⟨z, hz⟩ : ∃ z : Ext X3.now, y2.now = z.now := ⟨((Ext.drewn _).trans y1).trans y2, rfl⟩
                    refine hK _ _ ⟨X3.trans z, hz⟩ ?_; clear hK K
                    rw [hz]
                    clear hz
                    iterate 3 (refine plan_read rfl (fun K hK => ?_); go_simp; refine hK _ ?_; clear hK K)
                    clear e0 e1 e2 e3 e4 e5 l0 l1 c0 c1 c2 c3 c4 c5 c6 c7 lg1
                    obtain ⟨q0, q1, qf0, qf1, lq⟩ := HJ3.out.ext z
                    refine plan_step rfl (fun K hK => ?_); go_simp
                    refine hK _ _ ⟨⟨_, (((X3.trans z).below.setCell HLE.out _).setCell HLE.out _)⟩, rfl⟩ ?_; clear hK K
                    refine plan_nil ?_
                    simp only [List.drop_succ_cons, List.drop_zero]
                    obtain ⟨xf, hxf⟩ : ∃ xf : Ext Wb, (z.now.setCell ⟨G3, 0, none⟩ (.int .i64 sa)).setCell ⟨G3, 1, none⟩ (.int .i64 na) = xf.now := ⟨⟨_, (((X3.trans z).below.setCell HLE.out _).setCell HLE.out _)⟩, rfl⟩
                    have r0 : xf.now.cell? ⟨G3, 0, none⟩ = some (.int .i64 sa) := by rw [← hxf, World.cell?_setCell_other _ _ _ _ (by simp)]; exact World.cell?_setCell_same _ _ _ q0
                    have r1 : xf.now.cell? ⟨G3, 1, none⟩ = some (.int .i64 na) := by rw [← hxf]; exact World.cell?_setCell_same _ _ _ ((World.cell?_setCell_other _ _ _ _ (by simp)).trans q1)
                    rw [hxf]
                    have HU := Lib.hid (HCb.out.ext xf).up
                    obtain ⟨i0, i1, if0, if1, li⟩ := HIb.out.ext xf
                    clear hxf q0 q1 qf0 qf1 lq HCb HSb HIb HJ3
                    go_wp2
                    go_ret
                    exact ⟨by simp, HU.out⟩
            · have kv : ((v : Int) != 1) = true := bne_iff_ne.2 (by omega)
              clear hv1 HF
              go_wp2_with ((with_reducible refine at_store 41 ?_); (refine wpList_store_mean rfl _ _ _ rfl G C0 rfl rfl hM hC0 (by kernel_rfl) ?_); intro w5 hw5; obtain ⟨y5, rfl⟩ : ∃ y5 : Ext W0.now, w5 = y5.now := (by obtain ⟨q, hq⟩ := Ext.rows G HGle C0.toList 0 x5; exact ⟨q, by rw [hw5]; exact hq⟩); clear hw5)
              go_ret
              exact ⟨rfl, W0.trans y5, rfl⟩

end Go.Proofs.YtopcjlimjkfoiaaGreatDoor
