/-
FnCronTextAfterRoads: the calendar, the schedules, their texts and the zones, part 18 of 34.
-/
import Derived.Test.YtopcjlimjkfoiaaGreatDoorV17
set_option linter.all false
namespace Go.Proofs.YtopcjlimjkfoiaaGreatDoor
open Go.RowKit
attribute [local go_sem] Ext.cell Ext.frozen Ext.lt Ext.lt_add Ext.cell2 Ext.frozen2

def utcL : List Nat := [85, 84, 67]
def localL : List Nat := [76, 111, 99, 97, 108]

theorem zoneName_any (s : ByteArray) (h : nats s = [] ∨ nats s = utcL ∨ nats s = localL) (w : World) :
    Calls Tryz.prog 23 #[.string s] w fun e w' => (∃ b, e = .returned (.tuple #[.bool b, .int .i64 1])) ∧ w' = w := by
  rcases h with h | h | h
  · have k0 : (s.toList == ([] : List UInt8)) = true := by rw [lit_nats]; exact decide_eq_true h
    clear h
    go_enter Tryz.func23, Tryz.ntmps23
    go_wp2
    go_ret2
    exact ⟨⟨true, rfl⟩, rfl⟩
  · have k0 : (s.toList == ([] : List UInt8)) = false := by rw [lit_nats, h]; rfl
    have k1 : (s.toList == ([85, 84, 67] : List UInt8)) = true := by rw [lit_nats]; exact decide_eq_true h
    clear h
    go_enter Tryz.func23, Tryz.ntmps23
    go_wp2
    go_ret2
    exact ⟨⟨true, rfl⟩, rfl⟩
  · have k0 : (s.toList == ([] : List UInt8)) = false := by rw [lit_nats, h]; rfl
    have k1 : (s.toList == ([85, 84, 67] : List UInt8)) = false := by rw [lit_nats, h]; rfl
    have k2 : (s.toList == ([76, 111, 99, 97, 108] : List UInt8)) = true := by rw [lit_nats]; exact decide_eq_true h
    clear h
    go_enter Tryz.func23, Tryz.ntmps23
    go_wp2
    go_ret2
    exact ⟨⟨false, rfl⟩, rfl⟩

def MeanRes (F : Prop) (e : Ending) : Prop := ∃ (C : Array Value) (v : Nat), e = .returned (.tuple #[.agg C, .int .i64 v]) ∧ MS C ∧ v ≤ 2 ∧ (v = 1 → F)

def FieldsFine (o : Nat) (l : List Nat) : Prop :=
  foreign l = false ∧ words l ≠ [] ∧ ∃ m : Int, (m = -1 ∨ (0 ≤ m ∧ m = missK o)) ∧ (words l).length = cntU o m 6 ∧ ∀ j : Nat, j < 6 → FieldFine j (kLow j) (kHigh j) (fullK o m (words l) j)

theorem wordsGo_small : ∀ (l cur : List Nat) (p : List Nat), p ∈ wordsGo l cur → p.length ≤ cur.length + l.length
  | [], cur, p, h => by
    unfold wordsGo at h
    split at h
    · cases h
    · rw [List.mem_singleton.1 h]; simp
  | c :: l, cur, p, h => by
    unfold wordsGo at h
    simp only [List.length_cons]
    split at h
    · split at h
      · have := wordsGo_small l [] p h
        simp at this
        omega
      · rcases List.mem_cons.1 h with h | h
        · rw [h]; omega
        · have := wordsGo_small l [] p h
          simp at this
          omega
    · have := wordsGo_small l (cur ++ [c]) p h
      simp at this
      omega

theorem full_small {o : Nat} {m : Int} {l : List Nat} {j : Nat} (n : Nat) (hn : l.length ≤ n) (h1 : 1 ≤ n) : (fullK o m (words l) j).length ≤ n := by
  unfold fullK
  split
  · rw [List.getD_eq_getElem?_getD]
    cases h : (words l)[cntU o m j]? with
    | none => simp
    | some p =>
      have := wordsGo_small l [] p (List.mem_of_getElem? h)
      simp at this ⊢
      omega
  · unfold defK
    split <;> simp <;> omega

set_option maxRecDepth 1000000 in
set_option maxHeartbeats 4000000 in
theorem plain_fields (o : Nat) (ho : o < 512) (s : ByteArray) (w : World) (hs : s.size < 10000000000) (hb : begins (nats s) [64] = false) :
    Calls Tryz.prog 21 #[.int .i64 o, .string s] w fun e w' => MeanRes (FieldsFine o (nats s)) e ∧ ∃ y : Ext w, w' = y.now := by
  have hbg := Lib.hid (fun (W : World) => (show Calls Tryz.prog 18 #[.string s, .string ⟨#[64]⟩] W fun e w' => e = .returned (.bool false) ∧ w' = W from by
    have := begins_any s ⟨#[64]⟩ W (by omega) (by decide)
    rw [show nats ⟨#[64]⟩ = [64] from rfl, hb] at this
    exact this))
  have hfo := Lib.hid (fun (W : World) => foreign_any s W (by omega))
  have hwd := Lib.hid (fun (W : World) => words_any s W (by omega))
  have hfl := Lib.hid (fun (W : World) (v : Value) (ds : List ByteArray) (hv : StrsVal W v ds) (hl : ds.length < 100000000000) => fill_any hv o ho hl)
  clear hb
  go_enter Tryz.func21, Tryz.ntmps21
  go_wp2_with ((with_reducible refine at_alloc 41 ?_); refine wpList_alloc_mean rfl _ rfl zeroMean zeroMean_ms info41 ?_)
  intro cs hcs
  have hM := MB.alloc (w := w) hcs 41
  obtain ⟨x0, hx0⟩ : ∃ x : Ext w, w.alloc (.cells cs 41) = x.now := ⟨Ext.one _ _, rfl⟩
  rw [hx0] at hM ⊢
  clear hx0 hcs
  cases hf : foreign (nats s) with
  | true =>
    rw [hf] at hfo
    go_wp2_with (first
      | (go_at_call 18; (with_reducible refine (hbg.out _).mono ?_); rintro e w2 ⟨rfl, rfl⟩)
      | (go_at_call 25; (with_reducible refine (hfo.out _).mono ?_); rintro e w2 ⟨rfl, rfl⟩)
      | ((with_reducible refine at_build 41 ?_); (refine wpList_build_mean rfl 41 #[] rfl built_none ?_); intro C1 hC1)
      | ((with_reducible refine at_store 41 ?_); (refine wpList_store_mean rfl _ _ _ rfl w.heap.size C1 rfl rfl hM hC1 (by kernel_rfl) ?_); intro w5 hw5; have M5 := Lib.hid (hM.rows (G := w.heap.size) C1 hC1); rw [← hw5] at M5; obtain ⟨y5, rfl⟩ : ∃ y5 : Ext w, w5 = y5.now := (by obtain ⟨q, hq⟩ := Ext.rows w.heap.size (Nat.le_refl _) C1.toList 0 x0; exact ⟨q, by rw [hw5]; exact hq⟩); clear hw5))
    exact ret_mean2 rfl w.heap.size rfl M5.out (by kernel_rfl) (by kernel_rfl) rfl (fun C hC => ⟨⟨C, 2, rfl, hC, by decide, fun h => absurd h (by decide)⟩, y5, rfl⟩)
  | false =>
    rw [hf] at hfo
    have HFO := Lib.hid hf
    clear hf
    go_wp2_with (first
      | (go_at_call 18; (with_reducible refine (hbg.out _).mono ?_); rintro e w2 ⟨rfl, rfl⟩)
      | (go_at_call 25; (with_reducible refine (hfo.out _).mono ?_); rintro e w2 ⟨rfl, rfl⟩)
      | (go_at_call 35; (with_reducible refine (hwd.out _).mono ?_)))
    rintro e w2 ⟨v, dw, rfl, hv, hdw, hlen, x1, rfl⟩
    have HDW := Lib.hid hdw
    have HV := Lib.hid hv
    have hM1 := hM.ext x1
    have hlv := Lib.hid (hfl.out _ v dw hv (by omega))
    clear hdw
    go_wp2_with (go_at_call 36; (with_reducible refine (hlv.out).mono ?_))
    rintro e w2 ⟨⟨vf, ok, rfl, hok⟩, x2, rfl⟩
    have HOK := Lib.hid hok
    have hM2 := hM1.ext x2
    clear hok hM hM1
    obtain ⟨xa, hxa⟩ : ∃ xa : Ext w, x2.now = xa.now := ⟨(x0.trans x1).trans x2, rfl⟩
    cases ok with
    | false =>
      rw [hxa] at hM2 ⊢
      clear hxa
      go_wp2_with (first
        | ((with_reducible refine at_build 41 ?_); (refine wpList_build_mean rfl 41 #[] rfl built_none ?_); intro C1 hC1)
        | ((with_reducible refine at_store 41 ?_); (refine wpList_store_mean rfl _ _ _ rfl w.heap.size C1 rfl rfl hM2 hC1 (by kernel_rfl) ?_); intro w5 hw5; have M5 := Lib.hid (hM2.rows (G := w.heap.size) C1 hC1); rw [← hw5] at M5; obtain ⟨y5, rfl⟩ : ∃ y5 : Ext w, w5 = y5.now := (by obtain ⟨q, hq⟩ := Ext.rows w.heap.size (Nat.le_refl _) C1.toList 0 xa; exact ⟨q, by rw [hw5]; exact hq⟩); clear hw5))
      exact ret_mean2 rfl w.heap.size rfl M5.out (by kernel_rfl) (by kernel_rfl) rfl (fun C hC => ⟨⟨C, 0, rfl, hC, by decide, fun h => absurd h (by decide)⟩, y5, rfl⟩)
    | true =>
      obtain ⟨m, g, cap, ds, hm, hcnt, rfl, h6, hrow, hfull⟩ := HOK.out (by trivial)
      have HFULL := Lib.hid hfull
      have HCNT := Lib.hid hcnt
      have HM := Lib.hid hm
      rw [hxa] at hM2 hrow ⊢
      clear hxa hfull hcnt hm
      rcases HV.out with ⟨rfl, rfl⟩ | ⟨gw, cw, rfl, hrw⟩
      · go_wp2_with (first
          | ((with_reducible refine at_build 41 ?_); (refine wpList_build_mean rfl 41 #[] rfl built_none ?_); intro C1 hC1)
          | ((with_reducible refine at_store 41 ?_); (refine wpList_store_mean rfl _ _ _ rfl w.heap.size C1 rfl rfl hM2 hC1 (by kernel_rfl) ?_); intro w5 hw5; have M5 := Lib.hid (hM2.rows (G := w.heap.size) C1 hC1); rw [← hw5] at M5; obtain ⟨y5, rfl⟩ : ∃ y5 : Ext w, w5 = y5.now := (by obtain ⟨q, hq⟩ := Ext.rows w.heap.size (Nat.le_refl _) C1.toList 0 xa; exact ⟨q, by rw [hw5]; exact hq⟩); clear hw5))
        exact ret_mean2 rfl w.heap.size rfl M5.out (by kernel_rfl) (by kernel_rfl) rfl (fun C hC => ⟨⟨C, 2, rfl, hC, by decide, fun h => absurd h (by decide)⟩, y5, rfl⟩)
      · clear hrw
        by_cases hl0 : dw.length = 0
        · have k0 : ((dw.length : Int) == 0) = true := beq_iff_eq.2 (by omega)
          clear hl0
          go_wp2_with (first
            | ((with_reducible refine at_build 41 ?_); (refine wpList_build_mean rfl 41 #[] rfl built_none ?_); intro C1 hC1)
            | ((with_reducible refine at_store 41 ?_); (refine wpList_store_mean rfl _ _ _ rfl w.heap.size C1 rfl rfl hM2 hC1 (by kernel_rfl) ?_); intro w5 hw5; have M5 := Lib.hid (hM2.rows (G := w.heap.size) C1 hC1); rw [← hw5] at M5; obtain ⟨y5, rfl⟩ : ∃ y5 : Ext w, w5 = y5.now := (by obtain ⟨q, hq⟩ := Ext.rows w.heap.size (Nat.le_refl _) C1.toList 0 xa; exact ⟨q, by rw [hw5]; exact hq⟩); clear hw5))
          exact ret_mean2 rfl w.heap.size rfl M5.out (by kernel_rfl) (by kernel_rfl) rfl (fun C hC => ⟨⟨C, 2, rfl, hC, by decide, fun h => absurd h (by decide)⟩, y5, rfl⟩)
        · have k0 : ((dw.length : Int) == 0) = false := beq_eq_false_iff_ne.2 (by omega)
          have HL0 := Lib.hid hl0
          clear hl0
          have HSIX := Lib.hid (six_any hrow h6 (cap := cap) (fun d hd => by
            obtain ⟨j, hj, rfl⟩ := List.getElem_of_mem hd
            have h1 := HFULL.out j (by omega)
            rw [List.getD_eq_getElem?_getD, List.getElem?_eq_getElem hj, Option.getD_some, HDW.out] at h1
            have h2 := full_small (o := o) (m := m) (l := nats s) (j := j) (s.size + 1) (by rw [nats_length]; omega) (by omega)
            rw [← h1, nats_length] at h2
            omega))
          have hlg := hrow.lt
          go_wp2_with (go_at_call 37; (with_reducible refine (HSIX.out).mono ?_))
          rintro e w3 ⟨⟨C, vd, rfl, hC, hvd, hsix⟩, x3, rfl⟩
          have HS := Lib.hid hsix
          have hM3 := hM2.ext x3
          obtain ⟨xb, hxb⟩ : ∃ xb : Ext w, x3.now = xb.now := ⟨xa.trans x3, rfl⟩
          rw [hxb] at hM3 ⊢
          clear hxb hsix x3 hM2 hlg hrow
          have HFINE := Lib.hid (show vd = 1 → FieldsFine o (nats s) from by
            intro h1
            refine ⟨HFO.out, ?_, m, HM.out, by rw [← HDW.out]; exact HCNT.out, fun j hj => ?_⟩
            · intro h2
              have h3 := HDW.out
              rw [h2] at h3
              have := congrArg List.length h3
              simp at this
              exact HL0.out (by rw [this]; rfl)
            · have h2 := HS.out h1 j hj
              rwa [HFULL.out j hj, HDW.out] at h2)
          go_wp2_with ((with_reducible refine at_alloc 39 ?_); refine wpList_alloc_bools rfl _ rfl 384 info39 ?_)
          intro cs9 hcs9
          have hB := BB.alloc (w := xb.now) hcs9 39
          have hM4 := hM3.ext (Ext.one _ (.cells cs9 39))
          have hne : w.heap.size ≠ xb.now.heap.size := by have := hM3.lt; omega
          obtain ⟨xc, hxc⟩ : ∃ xc : Ext w, xb.now.alloc (.cells cs9 39) = xc.now := ⟨xb.trans (Ext.one _ _), rfl⟩
          have hM5 : MB xc.now w.heap.size := by rw [← hxc]; exact hM4
          rw [hxc] at hB ⊢
          clear hxc hM4 hcs9 hM3
          have hge : w.heap.size ≤ xb.now.heap.size := xb.le
          generalize xb.now.heap.size = G at *
          go_wp2_with (first
            | ((with_reducible refine at_store 39 ?_); (refine wpList_store_bools rfl _ _ _ rfl G 384 C rfl rfl hB hC (by kernel_rfl) ?_); intro w5 hw5; have hB5 := hB.rows (G := G) C hC (fun _ => rfl); have hM6 := hM5.other (G := G) 0 C.toList hne; rw [← hw5] at hB5 hM6; obtain ⟨y5, rfl⟩ : ∃ y5 : Ext w, w5 = y5.now := (by obtain ⟨q, hq⟩ := Ext.rows G hge C.toList 0 xc; exact ⟨q, by rw [hw5]; exact hq⟩); clear hw5)
            | ((with_reducible refine at_load 39 ?_); (refine wpList_load_bools rfl _ _ rfl G 0 384 384 rfl hB5 (by decide) (by kernel_rfl) (by kernel_rfl) ?_); intro C2 hC2)
            | ((with_reducible refine at_build 41 ?_); (refine wpList_build_mean rfl 41 _ rfl (built_fields hC2) ?_); intro C1 hC1)
            | ((with_reducible refine at_store 41 ?_); (refine wpList_store_mean rfl _ _ _ rfl w.heap.size C1 rfl rfl hM6 hC1 (by kernel_rfl) ?_); intro w6 hw6; have M5 := Lib.hid (hM6.rows (G := w.heap.size) C1 hC1); rw [← hw6] at M5; obtain ⟨y6, rfl⟩ : ∃ y6 : Ext w, w6 = y6.now := (by obtain ⟨q, hq⟩ := Ext.rows w.heap.size (Nat.le_refl _) C1.toList 0 y5; exact ⟨q, by rw [hw6]; exact hq⟩); clear hw6))
          exact ret_mean2 rfl w.heap.size rfl M5.out (by kernel_rfl) (by kernel_rfl) rfl (fun C hC => ⟨⟨C, vd, rfl, hC, hvd, HFINE.out⟩, y6, rfl⟩)

end Go.Proofs.YtopcjlimjkfoiaaGreatDoor
namespace Go.Proofs.YtopcjlimjkfoiaaGreatDoor
open Go.RowKit
attribute [local go_sem] Ext.cell Ext.frozen Ext.lt Ext.lt_add Ext.cell2 Ext.frozen2

def everyL : List Nat := [64, 101, 118, 101, 114, 121, 32]
def DescFine (l : List Nat) : Prop := descOf l ≠ [] ∨ (descOf l = [] ∧ begins l everyL = true ∧ DurFine (l.drop 7))

theorem begins_len {l p : List Nat} (h : begins l p = true) : p.length ≤ l.length := by
  have h1 : l.take p.length = p := of_decide_eq_true h
  have := congrArg List.length h1
  rw [List.length_take] at this
  omega

theorem desc_cases (l : List Nat) : descOf l = [] ∨ ∃ r, descOf l = 48 :: r := by
  unfold descOf
  repeat (split; · exact .inr ⟨_, rfl⟩)
  exact .inl rfl

theorem desc_small (l : List Nat) : (descOf l).length ≤ 9 := by
  unfold descOf
  repeat (split; · decide)
  decide

set_option maxRecDepth 1000000 in
set_option maxHeartbeats 4000000 in
theorem descriptor_any (s : ByteArray) (w : World) (hs : s.size < 10000000000) :
    Calls Tryz.prog 34 #[.string s] w fun e w' => MeanRes (DescFine (nats s)) e ∧ ∃ y : Ext w, w' = y.now := by
  have hds := Lib.hid (fun (W : World) => described_any s W)
  have hpl := Lib.hid (fun (W : World) (d : ByteArray) (hd : d.size < 10000000000) (hb : begins (nats d) [64] = false) => (show Calls Tryz.prog 21 #[.int .i64 380, .string d] W fun e w' => MeanRes (FieldsFine 380 (nats d)) e ∧ ∃ y : Ext W, w' = y.now from plain_fields 380 (by decide) d W hd hb))
  have hbg := Lib.hid (fun (W : World) => (show Calls Tryz.prog 18 #[.string s, .string ⟨#[64, 101, 118, 101, 114, 121, 32]⟩] W fun e w' => e = .returned (.bool (begins (nats s) everyL)) ∧ w' = W from begins_any s ⟨#[64, 101, 118, 101, 114, 121, 32]⟩ W (by omega) (by decide)))
  have hdu := Lib.hid (fun (W : World) (r : ByteArray) (hr : r.size < 100000000000) => duration_any r W hr)
  have hdl := Lib.hid (fun (W : World) (n : Int) => delay_any n W)
  have hfo := Lib.hid (fun (W : World) => foreign_any s W (by omega))
  have hwd := Lib.hid (fun (W : World) => words_any s W (by omega))
  have hcs := Lib.hid (desc_cases (nats s))
  have hsm := Lib.hid (desc_small (nats s))
  go_enter Tryz.func34, Tryz.ntmps34
  go_wp2_with ((with_reducible refine at_alloc 41 ?_); refine wpList_alloc_mean rfl _ rfl zeroMean zeroMean_ms info41 ?_)
  intro cs hcs0
  have hM := MB.alloc (w := w) hcs0 41
  obtain ⟨x0, hx0⟩ : ∃ x : Ext w, w.alloc (.cells cs 41) = x.now := ⟨Ext.one _ _, rfl⟩
  rw [hx0] at hM ⊢
  clear hx0 hcs0
  go_wp2_with (go_at_call 63; (with_reducible refine (hds.out _).mono ?_))
  rintro e w1 ⟨d, rfl, hd, rfl⟩
  have HD := Lib.hid hd
  clear hd
  rcases hcs.out with hz | ⟨r, hz⟩
  · have hz' : nats d = [] := by rw [HD.out, hz]
    have k0 : (d.toList == ([] : List UInt8)) = true := by rw [lit_nats]; exact decide_eq_true hz'
    have HZ := Lib.hid hz
    clear hz hz'
    cases hb : begins (nats s) everyL with
    | true =>
      rw [hb] at hbg
      have hlen : 7 ≤ s.size := by
        have := begins_len hb
        rw [nats_length] at this
        simpa [everyL] using this
      have HB := Lib.hid hb
      clear hb
      have k1 : (7 : Int) ≤ (s.size : Int) := by omega
      have hdu1 := Lib.hid (fun (W : World) => hdu.out W (s.extract 7 s.size) (by rw [ByteArray.size_extract]; omega))
      go_wp2_with (first
        | (go_at_call 18; (with_reducible refine (hbg.out _).mono ?_); rintro e w9 ⟨rfl, rfl⟩)
        | (go_at_call 64; (with_reducible refine (hdu1.out _).mono ?_)))
      rintro e w2 ⟨⟨D, v, rfl, hv, hf⟩, x1, rfl⟩
      have HF := Lib.hid hf
      clear hf
      have hM1 := hM.ext x1
      obtain ⟨xa, hxa⟩ : ∃ xa : Ext w, x1.now = xa.now := ⟨x0.trans x1, rfl⟩
      rw [hxa] at hM1 ⊢
      clear hxa hM
      by_cases hv1 : v = 1
      · have k2 : (((v : Nat) : Int) != 1) = false := by rw [hv1]; rfl
        have HFI := Lib.hid (show DescFine (nats s) from .inr ⟨HZ.out, HB.out, by rw [← nats_drop]; exact HF.out hv1⟩)
        clear hv1
        go_wp2_with (go_at_call 65; (with_reducible refine (hdl.out _ _).mono ?_))
        rintro e w3 ⟨⟨m, rfl⟩, rfl⟩
        go_wp2_with (first
          | ((with_reducible refine at_build 41 ?_); (refine wpList_build_mean rfl 41 _ rfl (built_every m) ?_); intro C1 hC1)
          | ((with_reducible refine at_store 41 ?_); (refine wpList_store_mean rfl _ _ _ rfl w.heap.size C1 rfl rfl hM1 hC1 (by kernel_rfl) ?_); intro w5 hw5; have M5 := Lib.hid ((hM1).rows (G := w.heap.size) C1 hC1); rw [← hw5] at M5; obtain ⟨y5, rfl⟩ : ∃ y5 : Ext w, w5 = y5.now := (by obtain ⟨q, hq⟩ := Ext.rows w.heap.size (Nat.le_refl _) C1.toList 0 xa; exact ⟨q, by rw [hw5]; exact hq⟩); clear hw5))
        exact ret_mean2 rfl w.heap.size rfl M5.out (by kernel_rfl) (by kernel_rfl) rfl (fun C hC => ⟨⟨C, 1, rfl, hC, by decide, fun _ => HFI.out⟩, y5, rfl⟩)
      · have k2 : (((v : Nat) : Int) != 1) = true := bne_iff_ne.2 (by omega)
        have HV := Lib.hid hv1
        clear hv1
        go_wp2_with (first
          | ((with_reducible refine at_build 41 ?_); (refine wpList_build_mean rfl 41 #[] rfl built_none ?_); intro C1 hC1)
          | ((with_reducible refine at_store 41 ?_); (refine wpList_store_mean rfl _ _ _ rfl w.heap.size C1 rfl rfl hM1 hC1 (by kernel_rfl) ?_); intro w5 hw5; have M5 := Lib.hid ((hM1).rows (G := w.heap.size) C1 hC1); rw [← hw5] at M5; obtain ⟨y5, rfl⟩ : ∃ y5 : Ext w, w5 = y5.now := (by obtain ⟨q, hq⟩ := Ext.rows w.heap.size (Nat.le_refl _) C1.toList 0 xa; exact ⟨q, by rw [hw5]; exact hq⟩); clear hw5))
        exact ret_mean2 rfl w.heap.size rfl M5.out (by kernel_rfl) (by kernel_rfl) rfl (fun C hC => ⟨⟨C, v, rfl, hC, hv, fun h => absurd h HV.out⟩, y5, rfl⟩)
    | false =>
      rw [hb] at hbg
      clear hb
      go_wp2_with (first
        | (go_at_call 18; (with_reducible refine (hbg.out _).mono ?_); rintro e w9 ⟨rfl, rfl⟩)
        | (go_at_call 35; (with_reducible refine (hwd.out _).mono ?_)))
      rintro e w2 ⟨v, dw, rfl, hv, hdw, hlen, x1, rfl⟩
      have HV := Lib.hid hv
      clear hdw hv
      have hM1 := hM.ext x1
      obtain ⟨xa, hxa⟩ : ∃ xa : Ext w, x1.now = xa.now := ⟨x0.trans x1, rfl⟩
      rw [hxa] at hM1 HV ⊢
      clear hxa hM
      cases hfr : foreign (nats s) with
      | true =>
        rw [hfr] at hfo
        clear hfr
        go_wp2_with (first
          | (go_at_call 25; (with_reducible refine (hfo.out _).mono ?_); rintro e w9 ⟨rfl, rfl⟩)
          | ((with_reducible refine at_build 41 ?_); (refine wpList_build_mean rfl 41 #[] rfl built_none ?_); intro C1 hC1)
          | ((with_reducible refine at_store 41 ?_); (refine wpList_store_mean rfl _ _ _ rfl w.heap.size C1 rfl rfl hM1 hC1 (by kernel_rfl) ?_); intro w5 hw5; have M5 := Lib.hid ((hM1).rows (G := w.heap.size) C1 hC1); rw [← hw5] at M5; obtain ⟨y5, rfl⟩ : ∃ y5 : Ext w, w5 = y5.now := (by obtain ⟨q, hq⟩ := Ext.rows w.heap.size (Nat.le_refl _) C1.toList 0 xa; exact ⟨q, by rw [hw5]; exact hq⟩); clear hw5))
        exact ret_mean2 rfl w.heap.size rfl M5.out (by kernel_rfl) (by kernel_rfl) rfl (fun C hC => ⟨⟨C, 2, rfl, hC, by decide, fun h => absurd h (by decide)⟩, y5, rfl⟩)
      | false =>
        rw [hfr] at hfo
        clear hfr
        rcases HV.out with ⟨rfl, rfl⟩ | ⟨gw, cw, rfl, hrw⟩
        · go_wp2_with (first
            | (go_at_call 25; (with_reducible refine (hfo.out _).mono ?_); rintro e w9 ⟨rfl, rfl⟩)
            | ((with_reducible refine at_build 41 ?_); (refine wpList_build_mean rfl 41 #[] rfl built_none ?_); intro C1 hC1)
            | ((with_reducible refine at_store 41 ?_); (refine wpList_store_mean rfl _ _ _ rfl w.heap.size C1 rfl rfl hM1 hC1 (by kernel_rfl) ?_); intro w5 hw5; have M5 := Lib.hid ((hM1).rows (G := w.heap.size) C1 hC1); rw [← hw5] at M5; obtain ⟨y5, rfl⟩ : ∃ y5 : Ext w, w5 = y5.now := (by obtain ⟨q, hq⟩ := Ext.rows w.heap.size (Nat.le_refl _) C1.toList 0 xa; exact ⟨q, by rw [hw5]; exact hq⟩); clear hw5))
          exact ret_mean2 rfl w.heap.size rfl M5.out (by kernel_rfl) (by kernel_rfl) rfl (fun C hC => ⟨⟨C, 0, rfl, hC, by decide, fun h => absurd h (by decide)⟩, y5, rfl⟩)
        · by_cases h1 : dw.length = 1
          · have k1 : ((dw.length : Int) == 1) = true := beq_iff_eq.2 (by omega)
            have k2 : (0 : Int) < (dw.length : Int) := by omega
            have hg := hrw.get 0 (by omega)
            have hlg := hrw.lt
            clear h1 hrw
            generalize dw.getD 0 ByteArray.empty = d0 at *
            by_cases hlt : d0.size < s.size
            · have k3 : (d0.size : Int) < (s.size : Int) := by omega
              go_wp2_with (first
                | (go_at_call 25; (with_reducible refine (hfo.out _).mono ?_); rintro e w9 ⟨rfl, rfl⟩)
                | ((with_reducible refine at_build 41 ?_); (refine wpList_build_mean rfl 41 #[] rfl built_none ?_); intro C1 hC1)
                | ((with_reducible refine at_store 41 ?_); (refine wpList_store_mean rfl _ _ _ rfl w.heap.size C1 rfl rfl hM1 hC1 (by kernel_rfl) ?_); intro w5 hw5; have M5 := Lib.hid ((hM1).rows (G := w.heap.size) C1 hC1); rw [← hw5] at M5; obtain ⟨y5, rfl⟩ : ∃ y5 : Ext w, w5 = y5.now := (by obtain ⟨q, hq⟩ := Ext.rows w.heap.size (Nat.le_refl _) C1.toList 0 xa; exact ⟨q, by rw [hw5]; exact hq⟩); clear hw5))
              exact ret_mean2 rfl w.heap.size rfl M5.out (by kernel_rfl) (by kernel_rfl) rfl (fun C hC => ⟨⟨C, 2, rfl, hC, by decide, fun h => absurd h (by decide)⟩, y5, rfl⟩)
            · have k3 : ¬ (d0.size : Int) < (s.size : Int) := by omega
              go_wp2_with (first
                | (go_at_call 25; (with_reducible refine (hfo.out _).mono ?_); rintro e w9 ⟨rfl, rfl⟩)
                | ((with_reducible refine at_build 41 ?_); (refine wpList_build_mean rfl 41 #[] rfl built_none ?_); intro C1 hC1)
                | ((with_reducible refine at_store 41 ?_); (refine wpList_store_mean rfl _ _ _ rfl w.heap.size C1 rfl rfl hM1 hC1 (by kernel_rfl) ?_); intro w5 hw5; have M5 := Lib.hid ((hM1).rows (G := w.heap.size) C1 hC1); rw [← hw5] at M5; obtain ⟨y5, rfl⟩ : ∃ y5 : Ext w, w5 = y5.now := (by obtain ⟨q, hq⟩ := Ext.rows w.heap.size (Nat.le_refl _) C1.toList 0 xa; exact ⟨q, by rw [hw5]; exact hq⟩); clear hw5))
              exact ret_mean2 rfl w.heap.size rfl M5.out (by kernel_rfl) (by kernel_rfl) rfl (fun C hC => ⟨⟨C, 0, rfl, hC, by decide, fun h => absurd h (by decide)⟩, y5, rfl⟩)
          · have k1 : ((dw.length : Int) == 1) = false := beq_eq_false_iff_ne.2 (by omega)
            clear h1 hrw
            go_wp2_with (first
              | (go_at_call 25; (with_reducible refine (hfo.out _).mono ?_); rintro e w9 ⟨rfl, rfl⟩)
              | ((with_reducible refine at_build 41 ?_); (refine wpList_build_mean rfl 41 #[] rfl built_none ?_); intro C1 hC1)
              | ((with_reducible refine at_store 41 ?_); (refine wpList_store_mean rfl _ _ _ rfl w.heap.size C1 rfl rfl hM1 hC1 (by kernel_rfl) ?_); intro w5 hw5; have M5 := Lib.hid ((hM1).rows (G := w.heap.size) C1 hC1); rw [← hw5] at M5; obtain ⟨y5, rfl⟩ : ∃ y5 : Ext w, w5 = y5.now := (by obtain ⟨q, hq⟩ := Ext.rows w.heap.size (Nat.le_refl _) C1.toList 0 xa; exact ⟨q, by rw [hw5]; exact hq⟩); clear hw5))
            exact ret_mean2 rfl w.heap.size rfl M5.out (by kernel_rfl) (by kernel_rfl) rfl (fun C hC => ⟨⟨C, 0, rfl, hC, by decide, fun h => absurd h (by decide)⟩, y5, rfl⟩)
  · have hz' : nats d = 48 :: r := by rw [HD.out, hz]
    have k0 : (d.toList == ([] : List UInt8)) = false := by rw [lit_nats, hz']; rfl
    have k00 : (d.toList != ([] : List UInt8)) = true := by rw [bne, k0]; rfl
    have hpl1 := Lib.hid (hpl.out x0.now d (by have h1 := hsm.out; rw [← HD.out, nats_length] at h1; omega) (by rw [hz']; rfl))
    have HZ := Lib.hid hz
    clear hz hz'
    go_wp2_with (go_at_call 21; (with_reducible refine (hpl1.out).mono ?_))
    rintro e w2 ⟨⟨C0, v, rfl, hC0, hv, hf⟩, x1, rfl⟩
    clear hf
    have hM1 := hM.ext x1
    obtain ⟨xa, hxa⟩ : ∃ xa : Ext w, x1.now = xa.now := ⟨x0.trans x1, rfl⟩
    rw [hxa] at hM1 ⊢
    clear hxa hM
    go_wp2_with ((with_reducible refine at_store 41 ?_); (refine wpList_store_mean rfl _ _ _ rfl w.heap.size C0 rfl rfl hM1 hC0 (by kernel_rfl) ?_); intro w5 hw5; have M5 := Lib.hid ((hM1).rows (G := w.heap.size) C0 hC0); rw [← hw5] at M5; obtain ⟨y5, rfl⟩ : ∃ y5 : Ext w, w5 = y5.now := (by obtain ⟨q, hq⟩ := Ext.rows w.heap.size (Nat.le_refl _) C0.toList 0 xa; exact ⟨q, by rw [hw5]; exact hq⟩); clear hw5)
    exact ret_mean2 rfl w.heap.size rfl M5.out (by kernel_rfl) (by kernel_rfl) rfl (fun C hC => ⟨⟨C, v, rfl, hC, hv, fun _ => .inl (by rw [HZ.out]; exact List.cons_ne_nil _ _)⟩, y5, rfl⟩)

def PlainFine (o : Nat) (l : List Nat) : Prop := (begins l [64] = true ∧ o.testBit 8 = true ∧ DescFine l) ∨ (begins l [64] = false ∧ FieldsFine o l)

set_option maxRecDepth 1000000 in
set_option maxHeartbeats 4000000 in
theorem plain_any (o : Nat) (ho : o < 512) (s : ByteArray) (w : World) (hs : s.size < 10000000000) :
    Calls Tryz.prog 21 #[.int .i64 o, .string s] w fun e w' => MeanRes (PlainFine o (nats s)) e ∧ ∃ y : Ext w, w' = y.now := by
  cases hb : begins (nats s) [64] with
  | false =>
    refine (plain_fields o ho s w hs hb).mono ?_
    rintro e w1 ⟨⟨C, v, rfl, hC, hv, hf⟩, hx⟩
    exact ⟨⟨C, v, rfl, hC, hv, fun h => .inr ⟨hb, hf h⟩⟩, hx⟩
  | true =>
    have hbg := Lib.hid (fun (W : World) => (show Calls Tryz.prog 18 #[.string s, .string ⟨#[64]⟩] W fun e w' => e = .returned (.bool true) ∧ w' = W from by
      have := begins_any s ⟨#[64]⟩ W (by omega) (by decide)
      rw [show nats ⟨#[64]⟩ = [64] from rfl, hb] at this
      exact this))
    have hde := Lib.hid (fun (W : World) => descriptor_any s W hs)
    have HB := Lib.hid hb
    have h8 := opt_ne o 8 ho (by decide) 256 (by decide)
    clear hb
    obtain ⟨t8, ht8⟩ : ∃ t, t = o.testBit 8 := ⟨_, rfl⟩
    rw [← ht8] at h8
    have HT := Lib.hid ht8
    clear ht8
    have h9 : (bits .and .i64 (o : Int) 256 == 0) = !t8 := by rw [← h8]; simp [bne]
    clear h8
    go_enter Tryz.func21, Tryz.ntmps21
    go_wp2_with ((with_reducible refine at_alloc 41 ?_); refine wpList_alloc_mean rfl _ rfl zeroMean zeroMean_ms info41 ?_)
    intro cs hcs0
    have hM := MB.alloc (w := w) hcs0 41
    obtain ⟨x0, hx0⟩ : ∃ x : Ext w, w.alloc (.cells cs 41) = x.now := ⟨Ext.one _ _, rfl⟩
    rw [hx0] at hM ⊢
    clear hx0 hcs0
    cases t8 with
    | false =>
      go_wp2_with (first
        | (go_at_call 18; (with_reducible refine (hbg.out _).mono ?_); rintro e w9 ⟨rfl, rfl⟩)
        | ((with_reducible refine at_build 41 ?_); (refine wpList_build_mean rfl 41 #[] rfl built_none ?_); intro C1 hC1)
        | ((with_reducible refine at_store 41 ?_); (refine wpList_store_mean rfl _ _ _ rfl w.heap.size C1 rfl rfl hM hC1 (by kernel_rfl) ?_); intro w5 hw5; have M5 := Lib.hid ((hM).rows (G := w.heap.size) C1 hC1); rw [← hw5] at M5; obtain ⟨y5, rfl⟩ : ∃ y5 : Ext w, w5 = y5.now := (by obtain ⟨q, hq⟩ := Ext.rows w.heap.size (Nat.le_refl _) C1.toList 0 x0; exact ⟨q, by rw [hw5]; exact hq⟩); clear hw5))
      exact ret_mean2 rfl w.heap.size rfl M5.out (by kernel_rfl) (by kernel_rfl) rfl (fun C hC => ⟨⟨C, 0, rfl, hC, by decide, fun h => absurd h (by decide)⟩, y5, rfl⟩)
    | true =>
      go_wp2_with (first
        | (go_at_call 18; (with_reducible refine (hbg.out _).mono ?_); rintro e w9 ⟨rfl, rfl⟩)
        | (go_at_call 34; (with_reducible refine (hde.out _).mono ?_)))
      rintro e w2 ⟨⟨C0, v, rfl, hC0, hv, hf⟩, x1, rfl⟩
      have HF := Lib.hid hf
      clear hf
      have hM1 := hM.ext x1
      obtain ⟨xa, hxa⟩ : ∃ xa : Ext w, x1.now = xa.now := ⟨x0.trans x1, rfl⟩
      rw [hxa] at hM1 ⊢
      clear hxa hM
      go_wp2_with ((with_reducible refine at_store 41 ?_); (refine wpList_store_mean rfl _ _ _ rfl w.heap.size C0 rfl rfl hM1 hC0 (by kernel_rfl) ?_); intro w5 hw5; have M5 := Lib.hid ((hM1).rows (G := w.heap.size) C0 hC0); rw [← hw5] at M5; obtain ⟨y5, rfl⟩ : ∃ y5 : Ext w, w5 = y5.now := (by obtain ⟨q, hq⟩ := Ext.rows w.heap.size (Nat.le_refl _) C0.toList 0 xa; exact ⟨q, by rw [hw5]; exact hq⟩); clear hw5)
      exact ret_mean2 rfl w.heap.size rfl M5.out (by kernel_rfl) (by kernel_rfl) rfl (fun C hC => ⟨⟨C, v, rfl, hC, hv, fun h => .inl ⟨HB.out, HT.out.symm, HF.out h⟩⟩, y5, rfl⟩)

end Go.Proofs.YtopcjlimjkfoiaaGreatDoor
namespace Go.Proofs.YtopcjlimjkfoiaaGreatDoor
open Go.RowKit
attribute [local go_sem] Ext.cell Ext.frozen Ext.lt Ext.lt_add Ext.cell2 Ext.frozen2

theorem trim_small (l : List Nat) : (trimL l).length ≤ l.length := by
  unfold trimL rtrim
  rw [List.length_reverse]
  have h1 := (List.dropWhile_sublist (l := (l.dropWhile blank).reverse) blank).length_le
  have h2 := (List.dropWhile_sublist (l := l) blank).length_le
  rw [List.length_reverse] at h1
  omega

set_option maxRecDepth 1000000 in
set_option maxHeartbeats 4000000 in
theorem parse_plain (o : Nat) (ho : o < 512) (s : ByteArray) (w : World) (hs : s.size < 10000000000) (hz : zoneHead (nats s) = 0) :
    Calls Tryz.prog 11 #[.int .i64 o, .string s] w fun e w' => MeanRes (nats s ≠ [] ∧ PlainFine o (nats s)) e ∧ ∃ y : Ext w, w' = y.now := by
  have hzh := Lib.hid (fun (W : World) => (show Calls Tryz.prog 6 #[.string s] W fun e w' => e = .returned (.int .i64 0) ∧ w' = W from by
    have := zoneHead_any s W (by omega)
    rw [hz] at this
    exact this))
  have hpl := Lib.hid (fun (W : World) => plain_any o ho s W hs)
  clear hz
  go_enter Tryz.func11, Tryz.ntmps11
  go_wp2_with ((with_reducible refine at_alloc 41 ?_); refine wpList_alloc_mean rfl _ rfl zeroMean zeroMean_ms info41 ?_)
  intro cs hcs0
  have hM := MB.alloc (w := w) hcs0 41
  obtain ⟨x0, hx0⟩ : ∃ x : Ext w, w.alloc (.cells cs 41) = x.now := ⟨Ext.one _ _, rfl⟩
  rw [hx0] at hM ⊢
  clear hx0 hcs0
  by_cases he : nats s = []
  · have k0 : (s.toList == ([] : List UInt8)) = true := by rw [lit_nats]; exact decide_eq_true he
    clear he
    go_wp2_with (first
      | (go_at_call 6; (with_reducible refine (hzh.out _).mono ?_); rintro e w9 ⟨rfl, rfl⟩)
      | ((with_reducible refine at_build 41 ?_); (refine wpList_build_mean rfl 41 #[] rfl built_none ?_); intro C1 hC1)
      | ((with_reducible refine at_store 41 ?_); (refine wpList_store_mean rfl _ _ _ rfl w.heap.size C1 rfl rfl hM hC1 (by kernel_rfl) ?_); intro w5 hw5; have M5 := Lib.hid ((hM).rows (G := w.heap.size) C1 hC1); rw [← hw5] at M5; obtain ⟨y5, rfl⟩ : ∃ y5 : Ext w, w5 = y5.now := (by obtain ⟨q, hq⟩ := Ext.rows w.heap.size (Nat.le_refl _) C1.toList 0 x0; exact ⟨q, by rw [hw5]; exact hq⟩); clear hw5))
    exact ret_mean2 rfl w.heap.size rfl M5.out (by kernel_rfl) (by kernel_rfl) rfl (fun C hC => ⟨⟨C, 0, rfl, hC, by decide, fun h => absurd h (by decide)⟩, y5, rfl⟩)
  · have k0 : (s.toList == ([] : List UInt8)) = false := by rw [lit_nats]; exact decide_eq_false he
    have HE := Lib.hid he
    clear he
    go_wp2_with (first
      | (go_at_call 6; (with_reducible refine (hzh.out _).mono ?_); rintro e w9 ⟨rfl, rfl⟩)
      | (go_at_call 21; (with_reducible refine (hpl.out _).mono ?_)))
    rintro e w2 ⟨⟨C0, v, rfl, hC0, hv, hf⟩, x1, rfl⟩
    have HF := Lib.hid hf
    clear hf
    have hM1 := hM.ext x1
    obtain ⟨xa, hxa⟩ : ∃ xa : Ext w, x1.now = xa.now := ⟨x0.trans x1, rfl⟩
    rw [hxa] at hM1 ⊢
    clear hxa hM
    go_wp2_with ((with_reducible refine at_store 41 ?_); (refine wpList_store_mean rfl _ _ _ rfl w.heap.size C0 rfl rfl hM1 hC0 (by kernel_rfl) ?_); intro w5 hw5; have M5 := Lib.hid ((hM1).rows (G := w.heap.size) C0 hC0); rw [← hw5] at M5; obtain ⟨y5, rfl⟩ : ∃ y5 : Ext w, w5 = y5.now := (by obtain ⟨q, hq⟩ := Ext.rows w.heap.size (Nat.le_refl _) C0.toList 0 xa; exact ⟨q, by rw [hw5]; exact hq⟩); clear hw5)
    exact ret_mean2 rfl w.heap.size rfl M5.out (by kernel_rfl) (by kernel_rfl) rfl (fun C hC => ⟨⟨C, v, rfl, hC, hv, fun h => ⟨HE.out, HF.out h⟩⟩, y5, rfl⟩)

set_option maxRecDepth 1000000 in
set_option maxHeartbeats 4000000 in
theorem parse_zone (o : Nat) (ho : o < 512) (s : ByteArray) (w : World) (hs : s.size < 10000000000) (h N : Nat) (hz : zoneHead (nats s) = h) (h0 : 0 < h) (hN : h ≤ N) (hNs : N < s.size) (h32 : (nats s).getD N 0 = 32)
    (hno : ∀ j, h ≤ j → j < N → (nats s).getD j 0 ≠ 32) (hnm : nats (s.extract h N) = [] ∨ nats (s.extract h N) = utcL ∨ nats (s.extract h N) = localL) :
    Calls Tryz.prog 11 #[.int .i64 o, .string s] w fun e w' => MeanRes (foreign (trimL ((nats s).drop N)) = false ∧ PlainFine o (trimL ((nats s).drop N))) e ∧ ∃ y : Ext w, w' = y.now := by
  have hzh := Lib.hid (fun (W : World) => (show Calls Tryz.prog 6 #[.string s] W fun e w' => e = .returned (.int .i64 (h : Nat)) ∧ w' = W from by
    have := zoneHead_any s W (by omega)
    rw [hz] at this
    exact this))
  have hna := Lib.hid (fun (W : World) => (show Calls Tryz.prog 22 #[.string s] W fun e w' => e = .returned (.bool false) ∧ w' = W from by
    have := noAnswer_any s W (by omega)
    have e : noAnswer (nats s) = false := by
      unfold noAnswer
      have hl : N < (nats s).length := by rw [nats_length]; exact hNs
      have h1 : (nats s).contains 32 = true := by
        have := getD_mem hl
        rw [h32] at this
        simpa using this
      rw [h1]
      rfl
    rw [e] at this
    exact this))
  have hnn := Lib.hid (fun (W : World) => zoneName_any (s.extract h N) hnm W)
  have htr := Lib.hid (fun (W : World) => trim_any (s.extract N s.size) W (by rw [ByteArray.size_extract]; omega))
  have hpl := Lib.hid (fun (W : World) (r : ByteArray) (hr : r.size < 10000000000) => plain_any o ho r W hr)
  have hfo := Lib.hid (fun (W : World) (r : ByteArray) (hr : r.size < 10000000000) => foreign_any r W (by omega))
  have hwo := Lib.hid (fun (W : World) (b : Nat) (hb : b < 1000) => (show Calls Tryz.prog 26 #[.int .i64 1, .int .i64 b] W fun e w' => e = .returned (.int .i64 (worseV 1 b : Nat)) ∧ w' = W from worse_any 1 b (by decide) hb W))
  have hwo2 := Lib.hid (fun (W : World) => (show Calls Tryz.prog 26 #[.int .i64 1, .int .i64 2] W fun e w' => e = .returned (.int .i64 2) ∧ w' = W from worse_any 1 2 (by decide) (by decide) W))
  have H32 := Lib.hid h32
  have HNO := Lib.hid hno
  have hk0 : ((h : Int) == 0) = false := beq_eq_false_iff_ne.2 (by omega)
  have hN' : (h : Int) ≤ (N : Int) := by omega
  have hNs' : (N : Int) ≤ (s.size : Int) := by omega
  clear hz h32 hno hnm h0
  go_enter Tryz.func11, Tryz.ntmps11
  go_wp2_with ((with_reducible refine at_alloc 41 ?_); refine wpList_alloc_mean rfl _ rfl zeroMean zeroMean_ms info41 ?_)
  intro cs hcs0
  have hM := MB.alloc (w := w) hcs0 41
  obtain ⟨x0, hx0⟩ : ∃ x : Ext w, w.alloc (.cells cs 41) = x.now := ⟨Ext.one _ _, rfl⟩
  rw [hx0] at hM ⊢
  clear hx0 hcs0
  go_wp2_with (first
    | (go_at_call 6; (with_reducible refine (hzh.out _).mono ?_); rintro e w9 ⟨rfl, rfl⟩)
    | (go_at_call 22; (with_reducible refine (hna.out _).mono ?_); rintro e w9 ⟨rfl, rfl⟩))
  go_loopw [7] (fun t7 wr => ∃ i : Nat, t7 = .int .i64 i ∧ h ≤ i ∧ i ≤ N ∧ wr = x0.now) (fun t _ => N - (intOf t).toNat)
  case atStart => exact ⟨h, rfl, Nat.le_refl _, hN, rfl⟩
  case round =>
    obtain ⟨i, rfl, hi1, hi2, rfl⟩ := hrel
    have hlt : i < s.size := by omega
    have hlt' : (i : Int) < (s.size : Int) := by omega
    by_cases hiN : i = N
    · subst hiN
      have k1 : (((s[i]'hlt).toNat : Int) != 32) = false := by
        have := nats_at s i hlt
        rw [H32.out] at this
        rw [← this]; rfl
      go_wp2_with (first
        | (go_at_call 23; (with_reducible refine (hnn.out _).mono ?_); rintro e w9 ⟨⟨ub, rfl⟩, rfl⟩)
        | (go_at_call 24; (with_reducible refine (htr.out _).mono ?_)))
      rintro e w9 ⟨⟨r, rfl, hr⟩, rfl⟩
      have HR := Lib.hid (show nats r = trimL ((nats s).drop i) by rw [hr, nats_drop])
      have hrs : r.size < 10000000000 := by
        have h1 := trim_small (nats (s.extract i s.size))
        rw [← hr, nats_length, nats_length, ByteArray.size_extract] at h1
        omega
      clear hr
      have hfo1 := Lib.hid (fun (W : World) => hfo.out W r hrs)
      have hpl1 := Lib.hid (fun (W : World) => hpl.out W r hrs)
      cases hfr : foreign (nats r) with
      | true =>
        rw [hfr] at hfo1
        clear hfr
        go_wp2_with (first
          | (go_at_call 25; (with_reducible refine (hfo1.out _).mono ?_); rintro e w9 ⟨rfl, rfl⟩)
          | ((with_reducible refine at_build 41 ?_); (refine wpList_build_mean rfl 41 #[] rfl built_none ?_); intro C1 hC1)
          | (go_at_call 26; (with_reducible refine (hwo2.out _).mono ?_); rintro e w9 ⟨rfl, rfl⟩)
          | ((with_reducible refine at_store 41 ?_); (refine wpList_store_mean rfl _ _ _ rfl w.heap.size C1 rfl rfl hM hC1 (by kernel_rfl) ?_); intro w5 hw5; have M5 := Lib.hid ((hM).rows (G := w.heap.size) C1 hC1); rw [← hw5] at M5; obtain ⟨y5, rfl⟩ : ∃ y5 : Ext w, w5 = y5.now := (by obtain ⟨q, hq⟩ := Ext.rows w.heap.size (Nat.le_refl _) C1.toList 0 x0; exact ⟨q, by rw [hw5]; exact hq⟩); clear hw5))
        exact ret_mean2 rfl w.heap.size rfl M5.out (by kernel_rfl) (by kernel_rfl) rfl (fun C hC => ⟨⟨C, 2, rfl, hC, by decide, fun h => absurd h (by decide)⟩, y5, rfl⟩)
      | false =>
        rw [hfr] at hfo1
        have HFR := Lib.hid hfr
        clear hfr
        go_wp2_with (first
          | (go_at_call 25; (with_reducible refine (hfo1.out _).mono ?_); rintro e w9 ⟨rfl, rfl⟩)
          | (go_at_call 21; (with_reducible refine (hpl1.out _).mono ?_)))
        rintro e w2 ⟨⟨C0, v, rfl, hC0, hv, hf⟩, x1, rfl⟩
        have HF := Lib.hid hf
        clear hf
        have hM1 := hM.ext x1
        obtain ⟨xa, hxa⟩ : ∃ xa : Ext w, x1.now = xa.now := ⟨x0.trans x1, rfl⟩
        rw [hxa] at hM1 ⊢
        clear hxa hM
        have HW := Lib.hid (fun (W : World) => hwo.out W v (by omega))
        go_wp2_with ((with_reducible refine at_alloc 41 ?_); refine wpList_alloc_mean rfl _ rfl zeroMean zeroMean_ms info41 ?_)
        intro cs2 hcs2
        have hM2 := hM1.ext (Ext.one _ (.cells cs2 41))
        have hK := MB.alloc (w := xa.now) hcs2 41
        have hne : w.heap.size ≠ xa.now.heap.size := by have := hM1.lt; omega
        have hge : w.heap.size ≤ xa.now.heap.size := xa.le
        obtain ⟨xc, hxc⟩ : ∃ xc : Ext w, xa.now.alloc (.cells cs2 41) = xc.now := ⟨xa.trans (Ext.one _ _), rfl⟩
        have hM3 : MB xc.now w.heap.size := by rw [← hxc]; exact hM2
        rw [hxc] at hK ⊢
        clear hxc hM2 hM1 hcs2
        generalize xa.now.heap.size = G at *
        by_cases hv1 : v = 1
        · have e1 : ((worseV 1 v : Nat) : Int) = 1 := by rw [hv1]; rfl
          rw [e1] at HW
          have HFI := Lib.hid (show foreign (trimL ((nats s).drop i)) = false ∧ PlainFine o (trimL ((nats s).drop i)) from by rw [← HR.out]; exact ⟨HFR.out, HF.out hv1⟩)
          clear hv1 e1
          go_upto_region 19 with (first
            | ((with_reducible refine at_store 41 ?_); (refine wpList_store_mean rfl _ _ _ rfl G C0 rfl rfl hK hC0 (by kernel_rfl) ?_); intro w5 hw5; have hK5 := hK.rows (G := G) C0 hC0; have hM5 := hM3.other (G := G) 0 C0.toList hne; rw [← hw5] at hK5 hM5; obtain ⟨y5, rfl⟩ : ∃ y5 : Ext w, w5 = y5.now := (by obtain ⟨q, hq⟩ := Ext.rows G hge C0.toList 0 xc; exact ⟨q, by rw [hw5]; exact hq⟩); clear hw5)
            | (go_at_call 26; (with_reducible refine (HW.out _).mono ?_); rintro e w9 ⟨rfl, rfl⟩))
          obtain ⟨b0, hb0⟩ : ∃ b, y5.now.cell? ⟨G, 0, none⟩ = some (.bool b) := by
            obtain ⟨u, hu, hm⟩ := hK5.at_ 0 (by decide)
            rcases hm with ⟨_, b, rfl⟩ | ⟨h, _⟩
            · exact ⟨b, hu⟩
            · cases h
          obtain ⟨b1, hb1⟩ : ∃ b, y5.now.cell? ⟨G, 386, none⟩ = some (.bool b) := by
            obtain ⟨u, hu, hm⟩ := hK5.at_ 386 (by decide)
            rcases hm with ⟨_, b, rfl⟩ | ⟨h, _⟩
            · exact ⟨b, hu⟩
            · cases h
          have hfz := hK5.fz 386 (by decide)
          have hGl := hK5.lt
          go_upto_region 20 with fail
          all_goals
            (first
              | (obtain ⟨y7, hy7⟩ := Ext.of (y5.below.setCell (p := ⟨G, 386, none⟩) hge (.bool false)); have hK7 := hK5.set G 386 (by decide) false; have hM7 := hM5.set G 386 (by decide) false; rw [hy7] at hK7 hM7 ⊢; clear hy7)
              | (obtain ⟨y7, hy7⟩ := Ext.of (y5.below.setCell (p := ⟨G, 386, none⟩) hge (.bool !b0)); have hK7 := hK5.set G 386 (by decide) (!b0); have hM7 := hM5.set G 386 (by decide) (!b0); rw [hy7] at hK7 hM7 ⊢; clear hy7))
            clear hK5 hM5 hb0 hb1 hfz hGl hK hM3
            go_wp2_with (first
              | ((with_reducible refine at_load 41 ?_); (refine wpList_load_mean rfl _ _ rfl G rfl hK7 (by kernel_rfl) (by kernel_rfl) ?_); intro C1 hC1)
              | ((with_reducible refine at_store 41 ?_); (refine wpList_store_mean rfl _ _ _ rfl w.heap.size C1 rfl rfl hM7 hC1 (by kernel_rfl) ?_); intro w5 hw5; have M5 := Lib.hid ((hM7).rows (G := w.heap.size) C1 hC1); rw [← hw5] at M5; obtain ⟨y5, rfl⟩ : ∃ y5 : Ext w, w5 = y5.now := (by obtain ⟨q, hq⟩ := Ext.rows w.heap.size (Nat.le_refl _) C1.toList 0 y7; exact ⟨q, by rw [hw5]; exact hq⟩); clear hw5))
            exact ret_mean2 rfl w.heap.size rfl M5.out (by kernel_rfl) (by kernel_rfl) rfl (fun C hC => ⟨⟨C, 1, rfl, hC, by decide, fun _ => HFI.out⟩, y5, rfl⟩)
        · have e1 : ((worseV 1 v : Nat) : Int) = (v : Int) := by unfold worseV; split <;> omega
          have hv2 : (((v : Nat) : Int) != 1) = true := bne_iff_ne.2 (by omega)
          rw [e1] at HW
          have HV := Lib.hid hv1
          clear hv1 e1
          go_wp2_with (first
            | ((with_reducible refine at_store 41 ?_); (refine wpList_store_mean rfl _ _ _ rfl G C0 rfl rfl hK hC0 (by kernel_rfl) ?_); intro w5 hw5; have hK5 := hK.rows (G := G) C0 hC0; have hM5 := hM3.other (G := G) 0 C0.toList hne; rw [← hw5] at hK5 hM5; obtain ⟨y6, rfl⟩ : ∃ y5 : Ext w, w5 = y5.now := (by obtain ⟨q, hq⟩ := Ext.rows G hge C0.toList 0 xc; exact ⟨q, by rw [hw5]; exact hq⟩); clear hw5)
            | (go_at_call 26; (with_reducible refine (HW.out _).mono ?_); rintro e w9 ⟨rfl, rfl⟩)
            | ((with_reducible refine at_build 41 ?_); (refine wpList_build_mean rfl 41 #[] rfl built_none ?_); intro C1 hC1)
            | ((with_reducible refine at_store 41 ?_); (refine wpList_store_mean rfl _ _ _ rfl w.heap.size C1 rfl rfl hM5 hC1 (by kernel_rfl) ?_); intro w5 hw5; have M5 := Lib.hid ((hM5).rows (G := w.heap.size) C1 hC1); rw [← hw5] at M5; obtain ⟨y5, rfl⟩ : ∃ y5 : Ext w, w5 = y5.now := (by obtain ⟨q, hq⟩ := Ext.rows w.heap.size (Nat.le_refl _) C1.toList 0 y6; exact ⟨q, by rw [hw5]; exact hq⟩); clear hw5))
          exact ret_mean2 rfl w.heap.size rfl M5.out (by kernel_rfl) (by kernel_rfl) rfl (fun C hC => ⟨⟨C, v, rfl, hC, hv, fun h => absurd h HV.out⟩, y5, rfl⟩)
    · have k1 : (((s[i]'hlt).toNat : Int) != 32) = true := by
        have h1 := HNO.out i hi1 (by omega)
        rw [nats_at s i hlt] at h1
        exact bne_iff_ne.2 (by omega)
      go_wp2_with fail
      exact ⟨⟨i + 1, by simp, by omega, by omega, trivial⟩, by simp [intOf]; omega⟩

end Go.Proofs.YtopcjlimjkfoiaaGreatDoor
