/-
FnCronTextAfterRoads: the calendar, the schedules, their texts and the zones, part 23 of 34.
-/
import Derived.Test.YtopcjlimjkfoiaaGreatDoorV22
import Derived.Deep.CutBlock
import Derived.Deep.DeepCutAuto
import Derived.Deep.Slices
import Derived.Laws.OwnMore
set_option linter.all false
namespace Go.Proofs.YtopcjlimjkfoiaaGreatDoor
open Go.RowKit
attribute [local go_sem] Ext.cell Ext.frozen Ext.lt Ext.lt_add Ext.cell2 Ext.frozen2

def MapsTo (w : World) (k : Nat) (r : Option Nat) : Prop := (r = none ∧ k ≠ 4 ∧ k ≠ 5) ∨ ∃ M, r = some M ∧ (k = 4 ∨ k = 5) ∧ Tab w M (tabOf k)
theorem MapsTo.ext {w : World} {k : Nat} {r : Option Nat} (h : MapsTo w k r) (x : Ext w) : MapsTo x.now k r := by
  rcases h with h | ⟨M, h1, h2, h3⟩
  · exact .inl h
  · exact .inr ⟨M, h1, h2, h3.ext x⟩

def exS (star : Bool) : Nat := if star then 9223372036854775808 else 0

theorem item_parts {k lo hi : Nat} {l : List Nat} (h : ItemFine k lo hi l) : ∃ (x : List Nat) (a b n e ex : Nat) (star single : Bool), EndsFine k lo hi x a b star single ∧ lo ≤ a ∧ a ≤ e ∧ e ≤ hi ∧ 0 < n ∧ n < 1099511627776 ∧ (star = true → b = hi) ∧ (star = false → single = true → b = a) ∧
    ((pieces 47 l = [x] ∧ n = 1 ∧ e = b ∧ ex = exS star) ∨ ∃ y, pieces 47 l = [x, y] ∧ StepFine y n ∧ e = (if single then hi else b) ∧ ex = if 1 < n then 0 else exS star) := by
  obtain ⟨a, b, star, single, h⟩ := h
  rcases h with ⟨x, h1, h2, h3, h4, h5⟩ | ⟨x, y, n, h1, h2, h3, h4, h5, h6⟩
  · refine ⟨x, a, b, 1, b, exS star, star, single, h2, h3, h5, h4, by decide, by decide, ?_, ?_, .inl ⟨h1, rfl, rfl, rfl⟩⟩
    · intro hs; rcases h2 with ⟨_, _, _, h, _⟩ | ⟨h, _⟩ | ⟨h, _⟩
      · exact h
      · rw [h] at hs; cases hs
      · rw [h] at hs; cases hs
    · intro hs h9; rcases h2 with ⟨h, _⟩ | ⟨_, _, h, _⟩ | ⟨_, h, _⟩
      · rw [h] at hs; cases hs
      · exact h
      · rw [h] at h9; cases h9
  · have hb : star = true → b = hi := by
      intro hs; rcases h2 with ⟨_, _, _, h, _⟩ | ⟨h, _⟩ | ⟨h, _⟩
      · exact h
      · rw [h] at hs; cases hs
      · rw [h] at hs; cases hs
    have he : endOf hi b star single = if single then hi else b := by
      unfold endOf
      cases single
      · simp
      · cases star
        · simp
        · simp [hb rfl]
    rw [he] at h5 h6
    refine ⟨x, a, b, n, _, _, star, single, h2, h4, h6, h5, h3.2.1, h3.2.2, hb, ?_, .inr ⟨y, h1, h3, rfl, rfl⟩⟩
    intro hs h9; rcases h2 with ⟨h, _⟩ | ⟨_, _, h, _⟩ | ⟨_, h, _⟩
    · rw [h] at hs; cases hs
    · exact h
    · rw [h] at h9; cases h9

theorem val_lt {k n : Nat} {l : List Nat} (h : ValFine k l n) : n ≤ 1099511627776 := by
  rcases h with ⟨hk, h1, h2, _⟩ | ⟨_, _, h⟩
  · have : kHigh k ≤ 60 := by unfold kHigh; repeat (split <;> try omega)
    omega
  · omega

set_option maxRecDepth 1000000 in
set_option maxHeartbeats 4000000 in
theorem range_any (k lo hi : Nat) (hk : k < 6) (hlo : lo < 60) (hhi : hi < 60) (s : ByteArray) (hs : s.size < 1000000000) (h : ItemFine k lo hi (nats s)) :
    ∃ v : Nat, v < 18446744073709551616 ∧ ∀ (w : World) (r : Option Nat), MapsTo w k r →
      Calls Tryz.prog 82 #[.string s, .agg #[.int .u64 lo, .int .u64 hi, .map r]] w fun e w' => e = .returned (.tuple #[.int .u64 v, .nilIface]) ∧ ∃ y : Ext w, w' = y.now := by
  obtain ⟨x, a, b, n, e, ex, star, single, hends, h1, h2, h3, h4, h5, h6, h6b, h7⟩ := item_parts h
  obtain ⟨gb, hgb, hget⟩ := getBits_any a e n (by omega) (by omega) h4 h5
  obtain ⟨v, hv, hve⟩ := bits_u64 .or (.inr rfl) (gb : Int) (ex : Int)
  refine ⟨v, hv, fun w r hr => ?_⟩
  have HGET := Lib.hid hget
  have HVE := Lib.hid hve
  have HENDS := Lib.hid hends
  have H7 := Lib.hid h7
  have H6 := Lib.hid h6
  have H6B := Lib.hid h6b
  have HBH := Lib.hid (show single = false → b ≤ hi from by
    intro h
    rcases h7 with ⟨_, _, h8, _⟩ | ⟨_, _, _, h8, _⟩
    · omega
    · rw [h] at h8
      simp at h8
      omega)
  have HR := Lib.hid hr
  have hsp1 := Lib.hid (fun (W : World) => (show Calls Tryz.prog 99 #[.string s, .string ⟨#[47]⟩] W fun e w' => PiecesRes s 47 W e w' from zzSplit_any s 47 W (by omega)))
  have hsp2 := Lib.hid (fun (W : World) (t : ByteArray) (ht : t.size < 100000000000) => (show Calls Tryz.prog 99 #[.string t, .string ⟨#[45]⟩] W fun e w' => PiecesRes t 45 W e w' from zzSplit_any t 45 W ht))
  clear hget hve hends h7 h6 h6b hr h
  go_enter Tryz.func82, Tryz.ntmps82
  go_wp2_with (go_at_call 99; (with_reducible refine (hsp1.out _).mono ?_))
  rintro e1 w1 ⟨g1, cap1, d1, rfl, ⟨hd1, hl1⟩, hrow1, y1, rfl⟩
  have hpos : 0 < d1.length := by
    rcases d1 with _ | ⟨d0, r⟩
    · exact absurd hd1.symm (pieces_ne _ _)
    · simp
  have hsm := pieces_small hd1
  have hc1 := hrow1.get 0 hpos
  have hx0 : nats (d1.getD 0 ByteArray.empty) = x := by
    have : pieces 47 (nats s) = x :: (pieces 47 (nats s)).tail := by
      rcases H7.out with ⟨h, _⟩ | ⟨y, h, _⟩ <;> rw [h] <;> rfl
    rw [← hd1] at this
    rcases d1 with _ | ⟨d0, r⟩
    · cases this
    · simp only [List.map_cons] at this
      injection this
  have hm0 : (d1.getD 0 ByteArray.empty).size ≤ s.size := hsm _ (by
    rw [List.getD_eq_getElem?_getD, List.getElem?_eq_getElem hpos]
    exact List.getElem_mem _)
  have HD1 := Lib.hid hd1
  have HSM := Lib.hid hsm
  have HROW1 := Lib.hid hrow1
  have hlg1 := hrow1.lt
  obtain ⟨t0, ht0⟩ : ∃ t, t = d1.getD 0 ByteArray.empty := ⟨_, rfl⟩
  rw [← ht0] at hc1 hx0 hm0
  have HX0 := Lib.hid hx0
  have hpos' : (0 : Int) < (d1.length : Int) := by omega
  have hl1' : (d1.length : Int) ≤ 1000000001 := by omega
  clear hd1 hsm hrow1 ht0 hx0
  go_wp2_with (go_at_call 99; (with_reducible refine (hsp2.out _ t0 (by omega)).mono ?_))
  rintro e1 w1 ⟨g2, cap2, d2, rfl, ⟨hd2, hl2⟩, hrow2, y2, rfl⟩
  have HD2 := Lib.hid hd2
  have hx2 : d2.map nats = pieces 45 x := by rw [hd2, HX0.out]
  have hpos2 : 0 < d2.length := by
    rcases d2 with _ | ⟨d0, r⟩
    · exact absurd hx2.symm (pieces_ne _ _)
    · simp
  have hc2 := hrow2.get 0 hpos2
  have hlg2 := hrow2.lt
  have HROW2 := Lib.hid hrow2
  have HSM2 := Lib.hid (pieces_small hd2)
  obtain ⟨u0, hu0⟩ : ∃ t, t = d2.getD 0 ByteArray.empty := ⟨_, rfl⟩
  have hm2 : u0.size ≤ t0.size := by
    rw [hu0]
    refine HSM2.out _ ?_
    rw [List.getD_eq_getElem?_getD, List.getElem?_eq_getElem hpos2]
    exact List.getElem_mem _
  rw [← hu0] at hc2
  have hp2 : pieces 45 x = nats u0 :: (pieces 45 x).tail := by
    rw [← hx2, hu0]
    rcases d2 with _ | ⟨d0, r⟩
    · exact absurd hpos2 (Nat.lt_irrefl _)
    · rfl
  have hlen2 : (pieces 45 x).length = d2.length := by rw [← hx2, List.length_map]
  have kl : ((d2.length : Int) == 1) = single := by
    rcases HENDS.out with ⟨_, rfl, _, _, h | ⟨h, _⟩⟩ | ⟨_, rfl, _, y, h, _⟩ | ⟨_, rfl, y, z, h, _⟩
    · rw [h] at hlen2; exact beq_iff_eq.2 (by simp at hlen2; omega)
    · rw [h] at hlen2; exact beq_iff_eq.2 (by simp at hlen2; omega)
    · rw [h] at hlen2; exact beq_iff_eq.2 (by simp at hlen2; omega)
    · rw [h] at hlen2; exact beq_eq_false_iff_ne.2 (by simp at hlen2; omega)
  have hpos2' : (0 : Int) < (d2.length : Int) := by omega
  have HP2 := Lib.hid hp2
  have HLEN2 := Lib.hid hlen2
  have HX2 := Lib.hid hx2
  have HU0 := Lib.hid hu0
  have HR2 := Lib.hid (((HR.out.ext (Ext.one w (.cells #[.int .u64 lo, .int .u64 hi, .map r] 109))).ext y1).ext y2)
  have z0 : y2.now.cell? ⟨w.heap.size, 0, none⟩ = some (.int .u64 lo) := by
    rw [y2.cell _ _ (by have := y1.le; simp at this; omega), y1.cell _ _ (by simp)]; simp [go_sem]
  have z1 : y2.now.cell? ⟨w.heap.size, 1, none⟩ = some (.int .u64 hi) := by
    rw [y2.cell _ _ (by have := y1.le; simp at this; omega), y1.cell _ _ (by simp)]; simp [go_sem]
  have z2 : y2.now.cell? ⟨w.heap.size, 2, none⟩ = some (.map r) := by
    rw [y2.cell _ _ (by have := y1.le; simp at this; omega), y1.cell _ _ (by simp)]; simp [go_sem]
  have zl : w.heap.size < y2.now.heap.size := by have h1 := y1.le; have h2 := y2.le; simp at h1; omega
  have HC1 := Lib.hid (show g1 < y2.now.heap.size ∧ StrRow y2.now g1 d1 from ⟨y2.lt _ hlg1, HROW1.out.ext y2⟩)
  obtain ⟨yw, hyw⟩ : ∃ q : Ext w, y2.now = q.now := ⟨((Ext.one w _).trans y1).trans y2, rfl⟩
  have HYW := Lib.hid hyw
  obtain ⟨G, hG⟩ : ∃ G, G = w.heap.size := ⟨_, rfl⟩
  rw [← hG] at z0 z1 z2 zl ⊢
  generalize hwy : y2.now = wy at *
  clear hd2 hx2 hp2 hlen2 hu0 hrow2 hc1 hlg1 hyw hG hwy y2
  go_upto_region 7 with fail
  go_cut [32] (fun t32 wr => t32 = .bool star ∧ wr = wy)
  case first =>
    rcases HENDS.out with ⟨rfl, -, -, -, h | ⟨h, -⟩⟩ | ⟨rfl, -, -, y, h, n42, n63, -⟩ | ⟨rfl, -, y, z, h, n42, n63, -⟩
    · have k0 : (u0.toList == ([42] : List UInt8)) = true := by
        rw [lit_nats]; have := HP2.out; rw [h] at this; injection this with this _; rw [← this]; exact decide_eq_true rfl
      clear h
      go_wp2_with fail
      go_meet
      case rel => exact ⟨rfl, rfl⟩
    · have k0 : (u0.toList == ([42] : List UInt8)) = false := by
        rw [lit_nats]; have := HP2.out; rw [h] at this; injection this with this _; rw [← this]; exact decide_eq_false (by decide)
      have k1 : (u0.toList == ([63] : List UInt8)) = true := by
        rw [lit_nats]; have := HP2.out; rw [h] at this; injection this with this _; rw [← this]; exact decide_eq_true rfl
      clear h
      go_wp2_with fail
      go_meet
      case rel => exact ⟨rfl, rfl⟩
    · have hu : nats u0 = y := by have := HP2.out; rw [h] at this; injection this with this _; exact this.symm
      have k0 : (u0.toList == ([42] : List UInt8)) = false := by rw [lit_nats, hu]; exact decide_eq_false n42
      have k1 : (u0.toList == ([63] : List UInt8)) = false := by rw [lit_nats, hu]; exact decide_eq_false n63
      clear h n42 n63 hu
      go_wp2_with fail
      go_meet
      case rel => exact ⟨rfl, rfl⟩
    · have hu : nats u0 = y := by have := HP2.out; rw [h] at this; injection this with this _; exact this.symm
      have k0 : (u0.toList == ([42] : List UInt8)) = false := by rw [lit_nats, hu]; exact decide_eq_false n42
      have k1 : (u0.toList == ([63] : List UInt8)) = false := by rw [lit_nats, hu]; exact decide_eq_false n63
      clear h n42 n63 hu
      go_wp2_with fail
      go_meet
      case rel => exact ⟨rfl, rfl⟩
  case rest =>
    obtain ⟨rfl, hwc⟩ := hcut
    subst wc
    go_upto_if 32 with fail
    go_cut [6, 7, 12, 13] (fun t6 t7 t12 t13 wr => t6 = .int .u64 a ∧ t7 = .int .u64 b ∧ t12 = .nilIface ∧ t13 = .int .u64 (exS star : Nat) ∧ ∃ q : Ext wy, wr = q.now)
    case first =>
      rcases HENDS.out with ⟨rfl, rfl, rfl, rfl, -⟩ | ⟨rfl, rfl, rfl, y, h, -, -, hval⟩ | ⟨rfl, rfl, y, z, h, -, -, hval, hval2⟩
      · go_wp2_with fail
        go_meet
        case rel => exact ⟨rfl, rfl, rfl, rfl, Ext.here _⟩
      · have hu : nats u0 = y := by have := HP2.out; rw [h] at this; injection this with this _; exact this.symm
        have hl2' : d2.length = 1 := by rw [← HLEN2.out, h]; rfl
        have k1 : ((d2.length : Int) == 1) = true := beq_iff_eq.2 (by omega)
        have hpn := Lib.hid (fun (q : Ext wy) => calls_ext (x := q) (pin_any k b r u0 q.now (HR2.out.ext q) (by rw [hu]; exact hval) (by omega) (by omega)))
        clear h hu hval hl2'
        go_wp2_with fail
        refine wp_region_ext (by kernel_rfl) (by kernel_rfl) ?_
        repeat (quiet_step ((go_at_call 100; with_reducible exact hpn.out _)))
        refine wpQuiet_nil ?_
        rintro w3 ⟨q, rfl⟩
        go_wp2_with fail
        go_meet
        case rel => exact ⟨rfl, rfl, rfl, rfl, q, rfl⟩
      · have hu : nats u0 = y := by have := HP2.out; rw [h] at this; injection this with this _; exact this.symm
        have hl2' : d2.length = 2 := by rw [← HLEN2.out, h]; rfl
        have k1 : ((d2.length : Int) == 2) = true := beq_iff_eq.2 (by omega)
        have k2 : (1 : Int) < (d2.length : Int) := by omega
        have hc3 := HROW2.out.get 1 (by omega)
        obtain ⟨u1, hu1⟩ : ∃ t, t = d2.getD 1 ByteArray.empty := ⟨_, rfl⟩
        rw [← hu1] at hc3
        have hu1z : nats u1 = z := by
          have h8 := HX2.out
          rw [h] at h8
          rw [hu1]
          rcases d2 with _ | ⟨d0, _ | ⟨d9, r9⟩⟩
          · cases h8
          · cases h8
          · simp only [List.map_cons] at h8
            injection h8 with _ h8
            injection h8
        have hm3 : u1.size ≤ t0.size := by
          rw [hu1]
          refine HSM2.out _ ?_
          rw [List.getD_eq_getElem?_getD, List.getElem?_eq_getElem (by omega)]
          exact List.getElem_mem _
        have hpn := Lib.hid (fun (q : Ext wy) => calls_ext (x := q) (pin_any k a r u0 q.now (HR2.out.ext q) (by rw [hu]; exact hval) (by omega) (by omega)))
        have hbh := HBH.out rfl
        have hpn2 := Lib.hid (fun (q0 : Ext wy) (q : Ext q0.now) => calls_ext (x := q) (pin_any k b r u1 q.now ((HR2.out.ext q0).ext q) (by rw [hu1z]; exact hval2) (by omega) (by omega)))
        clear h hu hval hval2 hl2' hu1 hu1z
        go_wp2_with fail
        refine wp_region_ext (by kernel_rfl) (by kernel_rfl) ?_
        repeat (quiet_step ((go_at_call 100; with_reducible exact hpn.out _)))
        refine wpQuiet_nil ?_
        rintro w3 ⟨q, rfl⟩
        go_wp2_with fail
        refine wp_region_ext (by kernel_rfl) (by kernel_rfl) ?_
        repeat (quiet_step ((go_at_call 100; with_reducible exact hpn2.out _ _)))
        refine wpQuiet_nil ?_
        rintro w3 ⟨q2, rfl⟩
        go_wp2_with fail
        go_meet
        case rel => exact ⟨rfl, rfl, rfl, rfl, q.trans q2, rfl⟩
    case rest =>
      obtain ⟨rfl, rfl, rfl, rfl, q, rfl⟩ := hcut
      clear hc2 kl
      go_upto_block 1 with fail
      go_cut [7, 8, 12, 13] (fun t7 t8 t12 t13 wr => t7 = .int .u64 e ∧ t8 = .int .u64 n ∧ t12 = .nilIface ∧ t13 = .int .u64 ex ∧ ∃ q : Ext wy, wr = q.now)
      case first =>
        rcases H7.out with ⟨h, rfl, rfl, rfl⟩ | ⟨y, h, hst, rfl, rfl⟩
        · have hl9 : d1.length = 1 := by have := congrArg List.length HD1.out; rw [List.length_map, h] at this; exact this
          have k1 : ((d1.length : Int) == 1) = true := beq_iff_eq.2 (by omega)
          clear h hl9
          go_wp2_with fail
          go_meet
          case rel => exact ⟨rfl, rfl, rfl, rfl, q, rfl⟩
        · have hl9 : d1.length = 2 := by have := congrArg List.length HD1.out; rw [List.length_map, h] at this; exact this
          have k1 : ((d1.length : Int) == 2) = true := beq_iff_eq.2 (by omega)
          have k0 : ((d1.length : Int) == 1) = false := beq_eq_false_iff_ne.2 (by omega)
          have k2 : (1 : Int) < (d1.length : Int) := by omega
          have hc3 := HC1.out.2.get 1 (by omega)
          have hg1 := HC1.out.1
          obtain ⟨u1, hu1⟩ : ∃ t, t = d1.getD 1 ByteArray.empty := ⟨_, rfl⟩
          rw [← hu1] at hc3
          have hu1z : nats u1 = y := by
            have h8 := HD1.out
            rw [h] at h8
            rw [hu1]
            rcases d1 with _ | ⟨d0, _ | ⟨d9, r9⟩⟩
            · cases h8
            · cases h8
            · simp only [List.map_cons] at h8
              injection h8 with _ h8
              injection h8
          have hm3 : u1.size ≤ s.size := by
            rw [hu1]
            refine HSM.out _ ?_
            rw [List.getD_eq_getElem?_getD, List.getElem?_eq_getElem (by omega)]
            exact List.getElem_mem _
          have hmu := Lib.hid (fun (W : World) => must_any u1 n (by rw [hu1z]; exact hst.1) hst.2.2 (by omega) W)
          clear h hl9 hst hu1 hu1z
          by_cases hn1 : 1 < n
          · have hn1' : (1 : Int) < (n : Int) := by omega
            have HN := Lib.hid hn1
            clear hn1
            cases single
            · go_wp2_with (go_at_call 101; (with_reducible refine (hmu.out _).mono ?_); rintro e9 w9 ⟨rfl, y9, rfl⟩)
              go_meet
              case rel => exact ⟨rfl, rfl, rfl, by rw [if_pos HN.out]; rfl, q.trans y9, rfl⟩
            · go_wp2_with (go_at_call 101; (with_reducible refine (hmu.out _).mono ?_); rintro e9 w9 ⟨rfl, y9, rfl⟩)
              go_meet
              case rel => exact ⟨rfl, rfl, rfl, by rw [if_pos HN.out]; rfl, q.trans y9, rfl⟩
          · have hn1' : ¬ (1 : Int) < (n : Int) := by omega
            have HN := Lib.hid hn1
            clear hn1
            cases single
            · go_wp2_with (go_at_call 101; (with_reducible refine (hmu.out _).mono ?_); rintro e9 w9 ⟨rfl, y9, rfl⟩)
              go_meet
              case rel => exact ⟨rfl, rfl, rfl, by rw [if_neg HN.out], q.trans y9, rfl⟩
            · go_wp2_with (go_at_call 101; (with_reducible refine (hmu.out _).mono ?_); rintro e9 w9 ⟨rfl, y9, rfl⟩)
              go_meet
              case rel => exact ⟨rfl, rfl, rfl, by rw [if_neg HN.out], q.trans y9, rfl⟩
      case rest =>
        obtain ⟨rfl, rfl, rfl, rfl, q2, rfl⟩ := hcut
        have c1 : ¬ (a : Int) < (lo : Int) := by omega
        have c2 : ¬ (hi : Int) < (e : Int) := by omega
        have c3 : ¬ (e : Int) < (a : Int) := by omega
        have c4 : ((n : Int) == 0) = false := beq_eq_false_iff_ne.2 (by omega)
        have hve := HVE.out
        go_wp2_with (go_at_call 94; (with_reducible refine (HGET.out _).mono ?_); rintro e9 w9 ⟨rfl, rfl⟩)
        go_ret2
        refine ⟨rfl, ?_⟩
        obtain ⟨q3, hq3⟩ : ∃ q3 : Ext w, q2.now = q3.now := by
          have h8 := HYW.out
          subst h8
          exact ⟨yw.trans q2, rfl⟩
        exact ⟨q3, hq3⟩

end Go.Proofs.YtopcjlimjkfoiaaGreatDoor
namespace Go.Proofs.YtopcjlimjkfoiaaGreatDoor
open Go.RowKit
attribute [local go_sem] Ext.cell Ext.frozen Ext.lt Ext.lt_add Ext.cell2 Ext.frozen2

def sepGo (c : Nat) : List Nat → List Nat → List (List Nat)
  | [], cur => if cur = [] then [] else [cur]
  | x :: l, cur => if x = c then (if cur = [] then sepGo c l [] else cur :: sepGo c l []) else sepGo c l (cur ++ [x])

def headAdd (cur : List Nat) : List (List Nat) → List (List Nat)
  | p :: r => (cur ++ p) :: r
  | [] => [cur]

theorem sepGo_eq (c : Nat) : ∀ (l cur : List Nat), sepGo c l cur = (headAdd cur (pieces c l)).filter (fun p => decide (p ≠ []))
  | [], cur => by
    unfold sepGo pieces headAdd
    by_cases h : cur = []
    · simp [h]
    · simp [h]
  | x :: l, cur => by
    unfold sepGo pieces
    by_cases hx : x = c
    · rw [if_pos hx, if_pos hx, sepGo_eq c l []]
      obtain ⟨p, ps, hp⟩ : ∃ p ps, pieces c l = p :: ps := by
        cases h : pieces c l with
        | nil => exact absurd h (pieces_ne _ _)
        | cons p ps => exact ⟨p, ps, rfl⟩
      rw [hp]
      by_cases h : cur = []
      · simp [h, headAdd]
      · simp [h, headAdd]
    · rw [if_neg hx, if_neg hx, sepGo_eq c l (cur ++ [x])]
      cases h : pieces c l with
      | nil => exact absurd h (pieces_ne _ _)
      | cons p ps => simp [headAdd]

theorem sep_whole {c : Nat} {l : List Nat} (h : ∀ p ∈ pieces c l, p ≠ []) : sepGo c l [] = pieces c l := by
  rw [sepGo_eq]
  cases e : pieces c l with
  | nil => exact absurd e (pieces_ne _ _)
  | cons p ps =>
    rw [e] at h
    simp only [headAdd, List.nil_append]
    exact List.filter_eq_self.2 fun q hq => decide_eq_true (h q hq)

theorem spans_sep (c : Nat) (s : ByteArray) (ha : ∀ i (h : i < s.size), (s[i]'h).toNat < 128) : ∀ (f pos : Nat) (st : Option Nat) (acc : List (Nat × Nat)), s.size ≤ f + pos → pos ≤ s.size → (∀ a, st = some a → a < pos) →
    ((Lib.closeSpans s (Lib.spansFromP (fun x => decide (x = c)) s f pos st acc)).map fun x => nats (s.extract x.1 x.2)) = (acc.map fun x => nats (s.extract x.1 x.2)) ++ sepGo c ((nats s).drop pos) (match st with | some a => ((nats s).take pos).drop a | none => [])
  | f, pos, st, acc, hf, hp, hst => by
    by_cases hlt : pos < s.size
    · obtain ⟨f, rfl⟩ : ∃ g, f = g + 1 := ⟨f - 1, by omega⟩
      have hl : pos < (nats s).length := by rw [nats_length]; exact hlt
      have hdr := List.drop_eq_getElem_cons hl
      have hat := nats_at s pos hlt
      rw [List.getD_eq_getElem?_getD, List.getElem?_eq_getElem hl] at hat
      rw [show (nats s)[pos] = (s[pos]'hlt).toNat from hat] at hdr
      have hd := Go.decode_ascii s pos hlt (ha pos hlt)
      have ht := take_snoc hl
      rw [nats_at s pos hlt] at ht
      rw [hdr]
      unfold Lib.spansFromP
      rw [if_pos hlt, hd]
      simp only
      by_cases hc : (s[pos]'hlt).toNat = c
      · rw [if_pos (decide_eq_true hc)]
        cases st with
        | none =>
          simp only
          rw [spans_sep c s ha f (pos + 1) none acc (by omega) (by omega) (fun a h => by cases h)]
          simp only [sepGo, if_pos hc, if_true]
        | some a =>
          have hap := hst a rfl
          simp only
          rw [spans_sep c s ha f (pos + 1) none _ (by omega) (by omega) (fun a h => by cases h)]
          have hne : ¬ ((nats s).take pos).drop a = [] := by
            intro e
            have := congrArg List.length e
            rw [List.length_drop, List.length_take, nats_length] at this
            simp at this
            omega
          simp only [sepGo, if_pos hc, if_neg hne, List.map_append, List.map_cons, List.map_nil, nats_extract, List.append_assoc, List.cons_append, List.nil_append]
      · rw [if_neg (by simpa using hc)]
        cases st with
        | none =>
          simp only
          rw [spans_sep c s ha f (pos + 1) (some pos) acc (by omega) (by omega) (fun a h => by cases h; omega)]
          conv => rhs; unfold sepGo
          rw [if_neg hc]
          simp only [ht, List.nil_append]
          have e0 : ((nats s).take pos).drop pos = [] := List.drop_eq_nil_of_le (by rw [List.length_take]; omega)
          rw [List.drop_append_of_le_length (by rw [List.length_take, nats_length]; omega), e0]
          rfl
        | some a =>
          have hap := hst a rfl
          simp only
          rw [spans_sep c s ha f (pos + 1) (some a) acc (by omega) (by omega) (fun a h => by cases h; omega)]
          conv => rhs; unfold sepGo
          rw [if_neg hc]
          simp only [ht]
          rw [List.drop_append_of_le_length (by rw [List.length_take, nats_length]; omega)]
    · rw [Lib.spansFromP_end _ _ _ _ _ _ hlt]
      have he : (nats s).drop pos = [] := List.drop_eq_nil_of_le (by rw [nats_length]; omega)
      rw [he]
      cases st with
      | none => simp [Lib.closeSpans, sepGo]
      | some a =>
        have hap := hst a rfl
        have hne : ¬ ((nats s).take pos).drop a = [] := by
          intro e
          have := congrArg List.length e
          rw [List.length_drop, List.length_take, nats_length] at this
          simp at this
          omega
        obtain rfl : pos = s.size := by omega
        simp only [Lib.closeSpans, sepGo, if_neg hne, List.map_append, List.map_cons, List.map_nil, nats_extract]

theorem fields_pieces {c : Nat} {s : ByteArray} (ha : ∀ i (h : i < s.size), (s[i]'h).toNat < 128) (h : ∀ p ∈ pieces c (nats s), p ≠ []) : (Lib.goFieldsP (fun x => decide (x = c)) s).map nats = pieces c (nats s) := by
  unfold Lib.goFieldsP Lib.spansOfP
  rw [List.map_map, ← sep_whole h]
  have := spans_sep c s ha s.size 0 none [] (by omega) (Nat.zero_le _) (fun a h => by cases h)
  simp only [List.map_nil, List.nil_append, List.drop_zero] at this
  exact this

end Go.Proofs.YtopcjlimjkfoiaaGreatDoor
namespace Go.Proofs.YtopcjlimjkfoiaaGreatDoor
open Go.RowKit
attribute [local go_sem] Ext.cell Ext.frozen Ext.lt Ext.lt_add Ext.cell2 Ext.frozen2

theorem pieces_count (c : Nat) : ∀ l : List Nat, (pieces c l).length ≤ l.length + 1
  | [] => Nat.le_refl _
  | x :: r => by
    have := pieces_count c r
    unfold pieces
    split
    · simp; omega
    · cases h : pieces c r with
      | nil => simp
      | cons p ps => rw [h] at this; simp at this ⊢; omega

theorem comma_any (c : Nat) (w : World) : Calls Tryz.prog 81 #[.int .i32 c] w fun e w' => e = .returned (.bool (decide (c = 44))) ∧ w' = w := by
  have e : decide (c = 44) = ((c : Int) == 44) := by
    by_cases h : c = 44
    · subst h; rfl
    · rw [decide_eq_false h]; exact (beq_eq_false_iff_ne.2 (by omega)).symm
  rw [e]
  go_enter Tryz.func81, Tryz.ntmps81
  go_wp2
  go_ret
  exact ⟨rfl, rfl⟩

def FieldsFuncRes (ds : List ByteArray) (e : Ending) (w' : World) : Prop := ∃ A, e = .returned (.slice (some ⟨A, 0, none⟩) ds.length ds.length) ∧ (0 < ds.length → StrRow w' A ds)

theorem fieldsFunc_any (s : ByteArray) (hs : s.size ≤ 4294967296) (hd : 0 < (Lib.goFieldsP (fun x => decide (x = 44)) s).length) (w : World) :
    Calls Tryz.prog 80 #[.string s, .func (.func 81) #[] #[]] w fun e w' => FieldsFuncRes (Lib.goFieldsP (fun x => decide (x = 44)) s) e w' ∧ ∃ y : Ext w, w' = y.now := by
  refine (Tryz.strings_FieldsFunc_runes 81 #[] (enters_of Tryz.func81 (by kernel_rfl) rfl) (fun x => decide (x = 44)) s w hs ?_).mono ?_
  · intro W x _ _
    refine (comma_any x W).mono ?_
    rintro e w' ⟨rfl, rfl⟩
    exact ⟨rfl, 0, rfl⟩
  · rintro e w' ⟨A, rfl, h1, h2, h3⟩
    generalize Lib.goFieldsP (fun x => decide (x = 44)) s = ds at *
    obtain ⟨g2, cap2, he2, _, hgl, hcell⟩ := ownsRow_cell h2 hd
    cases he2
    exact ⟨⟨_, rfl, fun _ => ⟨hgl, fun i hi => hcell i (by simpa using hi)⟩⟩, Ext.of h3⟩

def orF (V : Nat → Nat) : Nat → Int
  | 0 => 0
  | j + 1 => bits .or .u64 (orF V j) (V j : Nat)

theorem orF_nat (V : Nat → Nat) : ∀ m, ∃ n : Nat, n < 18446744073709551616 ∧ orF V m = (n : Int)
  | 0 => ⟨0, by decide, rfl⟩
  | m + 1 => bits_u64 .or (.inr rfl) _ _

set_option maxRecDepth 1000000 in
set_option maxHeartbeats 4000000 in
theorem getField_any (k lo hi : Nat) (hk : k < 6) (hlo : lo < 60) (hhi : hi < 60) (s : ByteArray) (hs : s.size < 1000000000) (ha : foreign (nats s) = false) (h : FieldFine k lo hi (nats s)) :
    ∃ v : Nat, v < 18446744073709551616 ∧ ∀ (w : World) (r : Option Nat), MapsTo w k r →
      Calls Tryz.prog 50 #[.string s, .agg #[.int .u64 lo, .int .u64 hi, .map r]] w fun e w' => e = .returned (.tuple #[.int .u64 v, .nilIface]) ∧ ∃ y : Ext w, w' = y.now := by
  have has : ∀ i (h : i < s.size), (s[i]'h).toNat < 128 := fun i h => by
    rw [← nats_at s i h]
    exact foreign_mem ha _ (getD_mem (by rw [nats_length]; exact h))
  have hds := fields_pieces (c := 44) has (fun p hp => (h p hp).1)
  obtain ⟨ds, hdse⟩ : ∃ ds, ds = Lib.goFieldsP (fun x => decide (x = 44)) s := ⟨_, rfl⟩
  rw [← hdse] at hds
  have hpos : 0 < ds.length := by
    rcases ds with _ | ⟨d0, r⟩
    · exact absurd hds.symm (pieces_ne _ _)
    · simp
  have hlen : ds.length ≤ s.size + 1 := by
    have := pieces_count 44 (nats s)
    rw [← hds, List.length_map, nats_length] at this
    exact this
  have hsm := pieces_small hds
  obtain ⟨V, hV⟩ := Go.Deep.choose_lt (α := Nat) (n := ds.length) (p := fun j v => v < 18446744073709551616 ∧ ∀ (w : World) (r : Option Nat), MapsTo w k r →
      Calls Tryz.prog 82 #[.string (ds.getD j ByteArray.empty), .agg #[.int .u64 lo, .int .u64 hi, .map r]] w fun e w' => e = .returned (.tuple #[.int .u64 v, .nilIface]) ∧ ∃ y : Ext w, w' = y.now) (fun j hj => by
    have hm : ds.getD j ByteArray.empty ∈ ds := by
      rw [List.getD_eq_getElem?_getD, List.getElem?_eq_getElem hj]
      exact List.getElem_mem _
    exact range_any k lo hi hk hlo hhi _ (by have := hsm _ hm; omega) (h _ (by rw [← hds]; exact List.mem_map_of_mem hm)).2)
  obtain ⟨v, hv, hve⟩ := orF_nat V ds.length
  refine ⟨v, hv, fun w r hr => ?_⟩
  have HV := Lib.hid hV
  have HVE := Lib.hid hve
  have HR := Lib.hid hr
  have hff := Lib.hid (fun (W : World) => (show Calls Tryz.prog 80 #[.string s, .func (.func 81) #[] #[]] W fun e w' => FieldsFuncRes ds e w' ∧ ∃ y : Ext W, w' = y.now from by
    have := fieldsFunc_any s (by omega) (by rw [← hdse]; exact hpos) W
    rwa [← hdse] at this))
  have hnn : (ds.length : Int) ≤ 1000000001 := by omega
  clear hV hve hr hds hsm hdse h has ha
  go_enter Tryz.func50, Tryz.ntmps50
  go_wp2_with (go_at_call 80; (with_reducible refine (hff.out _).mono ?_))
  rintro e1 w1 ⟨⟨A, rfl, hrow⟩, y1, rfl⟩
  have HROW := Lib.hid (hrow hpos)
  have hlgA := (hrow hpos).lt
  have HR2 := Lib.hid ((HR.out.ext (Ext.one w (.cells #[.int .u64 lo, .int .u64 hi, .map r] 109))).ext y1)
  have z0 : y1.now.cell? ⟨w.heap.size, 0, none⟩ = some (.int .u64 lo) := by
    rw [y1.cell _ _ (by simp)]; simp [go_sem]
  have z1 : y1.now.cell? ⟨w.heap.size, 1, none⟩ = some (.int .u64 hi) := by
    rw [y1.cell _ _ (by simp)]; simp [go_sem]
  have z2 : y1.now.cell? ⟨w.heap.size, 2, none⟩ = some (.map r) := by
    rw [y1.cell _ _ (by simp)]; simp [go_sem]
  have zl : w.heap.size < y1.now.heap.size := by have h1 := y1.le; simp at h1; omega
  obtain ⟨yw, hyw⟩ : ∃ q : Ext w, y1.now = q.now := ⟨(Ext.one w _).trans y1, rfl⟩
  have HYW := Lib.hid hyw
  obtain ⟨G, hG⟩ : ∃ G, G = w.heap.size := ⟨_, rfl⟩
  rw [← hG] at z0 z1 z2 zl ⊢
  generalize hwy : y1.now = wy at *
  clear hrow hyw hG hwy y1 hpos
  go_wp2_with fail
  go_loopw [6, 16] (fun t6 t16 wr => ∃ i : Nat, t16 = .int .i64 i ∧ t6 = .int .u64 (orF V i) ∧ i ≤ ds.length ∧ ∃ x : Ext wy, wr = x.now) (fun _ t _ => ds.length - (intOf t).toNat)
  case atStart => exact ⟨0, rfl, rfl, Nat.zero_le _, Ext.here _⟩
  case round =>
    obtain ⟨i, rfl, rfl, hi, x, rfl⟩ := hrel
    by_cases hlt : i < ds.length
    · have hlt' : (i : Int) < (ds.length : Int) := by omega
      have hci := HROW.out.get i hlt
      have hrg := Lib.hid ((HV.out i hlt).2 x.now r (HR2.out.ext x))
      have HOR := Lib.hid (show orF V (i + 1) = bits .or .u64 (orF V i) (V i : Nat) from rfl)
      generalize ds.getD i ByteArray.empty = d at *
      generalize orF V i = acc at *
      go_wp2_with (go_at_call 82; (with_reducible refine (hrg.out).mono ?_); rintro e9 w9 ⟨rfl, y9, rfl⟩)
      exact ⟨⟨i + 1, by simp, by rw [HOR.out], by omega, x.trans y9, rfl⟩, by simp [intOf]; omega⟩
    · have hlt' : ¬ (i : Int) < (ds.length : Int) := by omega
      obtain rfl : i = ds.length := by omega
      have hve := HVE.out
      go_wp2_with fail
      go_ret2
      refine ⟨rfl, ?_⟩
      have h8 := HYW.out
      subst h8
      exact ⟨yw.trans x, rfl⟩

end Go.Proofs.YtopcjlimjkfoiaaGreatDoor
namespace Go.Proofs.YtopcjlimjkfoiaaGreatDoor
open Go.RowKit
attribute [local go_sem] Ext.cell Ext.frozen Ext.lt Ext.lt_add Ext.cell2 Ext.frozen2

def plK (k : Nat) : Nat := if k = 0 then 1 else if k = 1 then 4 else if k = 2 then 8 else if k = 3 then 16 else if k = 4 then 32 else 64
def o2A (o : Nat) : Nat := if o.testBit 1 then o ||| 1 else o
def o2 (o : Nat) : Nat := if o.testBit 7 then o2A o ||| 64 else o2A o

theorem o2_facts : ∀ o : Fin 512, decide (0 < o.val &&& 2) = o.val.testBit 1 ∧ decide (0 < o2A o.val &&& 128) = o.val.testBit 7 ∧ decide (0 < o2 o.val &&& 128) = o.val.testBit 7 ∧ decide (0 < o2 o.val &&& 2) = o.val.testBit 1 ∧ o2A o.val < 512 ∧ o2 o.val < 512 ∧
    ∀ k : Fin 6, decide (0 < o2 o.val &&& plK k.val) = takesK o.val k.val := by decide +kernel

theorem and_nat (a c : Nat) (ha : a < 512) (hc : c < 512) : bits .and .i64 (a : Int) (c : Int) = ((a &&& c : Nat) : Int) :=
  (bits_nat .i64 63 (by decide) wraps_i64 a c (by omega) (by omega)).1
theorem or_nat (a c : Nat) (ha : a < 512) (hc : c < 512) : bits .or .i64 (a : Int) (c : Int) = ((a ||| c : Nat) : Int) :=
  (bits_nat .i64 63 (by decide) wraps_i64 a c (by omega) (by omega)).2

def PlacesRes (e : Ending) (w' : World) : Prop := ∃ g, e = .returned (.slice (some ⟨g, 0, none⟩) 6 6) ∧ g < w'.heap.size ∧ ∀ j, j < 6 → w'.cell? ⟨g, j, none⟩ = some (.int .i64 (plK j : Nat))

theorem places_any (w : World) : Calls Tryz.prog 78 #[] w fun e w' => PlacesRes e w' ∧ ∃ y : Ext w, w' = y.now := by
  go_enter Tryz.func78, Tryz.ntmps78
  go_wp2
  go_ret
  refine ⟨⟨w.heap.size, rfl, by simp, fun j hj => ?_⟩, Ext.alloc1 _ _⟩
  rcases (show j = 0 ∨ j = 1 ∨ j = 2 ∨ j = 3 ∨ j = 4 ∨ j = 5 by omega) with rfl | rfl | rfl | rfl | rfl | rfl
  all_goals (simp [go_sem]; rfl)

def defsL : List ByteArray := [⟨#[48]⟩, ⟨#[48]⟩, ⟨#[48]⟩, ⟨#[42]⟩, ⟨#[42]⟩, ⟨#[42]⟩]
def DefsRes (e : Ending) (w' : World) : Prop := ∃ g, e = .returned (.slice (some ⟨g, 0, none⟩) 6 6) ∧ StrRow w' g defsL

theorem defaults_any (w : World) : Calls Tryz.prog 79 #[] w fun e w' => DefsRes e w' ∧ ∃ y : Ext w, w' = y.now := by
  go_enter Tryz.func79, Tryz.ntmps79
  go_wp2
  go_ret
  refine ⟨⟨w.heap.size, rfl, by simp, fun j hj => ?_⟩, Ext.alloc1 _ _⟩
  have hj' : j < 6 := hj
  rcases (show j = 0 ∨ j = 1 ∨ j = 2 ∨ j = 3 ∨ j = 4 ∨ j = 5 by omega) with rfl | rfl | rfl | rfl | rfl | rfl
  all_goals (simp [go_sem]; rfl)

end Go.Proofs.YtopcjlimjkfoiaaGreatDoor
