/-
FnCronTextAfterRoads: the calendar, the schedules, their texts and the zones, part 25 of 34.
-/
import Derived.Test.YtopcjlimjkfoiaaGreatDoorV24
import Derived.Test.YtopcjlimjkfoiaaGreatDoorV05
import Derived.Deep.CutBlock
import Derived.Deep.DeepCutAuto
set_option linter.all false
namespace Go.Proofs.YtopcjlimjkfoiaaGreatDoor
open Go.RowKit
attribute [local go_sem] Ext.cell Ext.frozen Ext.lt Ext.lt_add Ext.cell2 Ext.frozen2

def HeadAt (s : ByteArray) (l : List Nat) (u : Bool) : Prop := (begins (nats s) [84, 90, 61] = false ∧ begins (nats s) [67, 82, 79, 78, 95, 84, 90, 61] = false ∧ l = nats s ∧ u = false) ∨
  ∃ Q N, (begins (nats s) [84, 90, 61] = true ∨ begins (nats s) [67, 82, 79, 78, 95, 84, 90, 61] = true) ∧ N < s.size ∧ Q + 1 ≤ N ∧ (nats s).getD Q 0 = 61 ∧ (∀ j, j < Q → (nats s).getD j 0 ≠ 61) ∧ (nats s).getD N 0 = 32 ∧ (∀ j, j < N → (nats s).getD j 0 ≠ 32) ∧
    foreign ((nats s).drop N) = false ∧ l = trimL ((nats s).drop N) ∧ ((u = true ∧ (nats (s.extract (Q + 1) N) = [] ∨ nats (s.extract (Q + 1) N) = utcL)) ∨ (u = false ∧ nats (s.extract (Q + 1) N) = localL))

def OwnPlace (w : World) (u : Bool) (p : Option Addr) : Prop := (u = false ∧ p = none) ∨ (u = true ∧ ∃ L, p = some ⟨L, 0, none⟩ ∧ Lpl w L none utcZn)
theorem OwnPlace.ext {w : World} {u : Bool} {p : Option Addr} (h : OwnPlace w u p) (x : Ext w) : OwnPlace x.now u p := by
  rcases h with h | ⟨h1, L, h2, h3⟩
  · exact .inl h
  · exact .inr ⟨h1, L, h2, h3.ext x⟩

def SchedRes (f : Nat → Nat) (u : Bool) (e : Ending) (w' : World) : Prop := ∃ S p, e = .returned (.tuple #[.iface 93 (.pointer (some ⟨S, 0, none⟩)), .nilIface]) ∧ Sch w' S f ∧ w'.cell? ⟨S, 6, none⟩ = some (.pointer p) ∧ OwnPlace w' u p

theorem ownsRow_mono {w : World} {base base' : Nat} {e : TypeId} {size : Nat} {v : Value} {n : Nat} {xs : List Value} (h : w.ownsRow base e size v n xs) (hb : base' ≤ base) : w.ownsRow base' e size v n xs := by
  obtain ⟨h1, h2⟩ := h
  refine ⟨h1, ?_⟩
  rcases h2 with h2 | ⟨g, cap, cur, h3, h4, h5⟩
  · exact .inl h2
  · exact .inr ⟨g, cap, cur, h3, by omega, h5⟩

theorem wordsGo_mem : ∀ (l cur : List Nat) (p : List Nat), p ∈ wordsGo l cur → ∀ c ∈ p, c ∈ cur ∨ c ∈ l
  | [], cur, p, h, c, hc => by
    unfold wordsGo at h
    split at h
    · cases h
    · rw [List.mem_singleton.1 h] at hc; exact .inl hc
  | x :: l, cur, p, h, c, hc => by
    unfold wordsGo at h
    split at h
    · split at h
      · rcases wordsGo_mem l [] p h c hc with h | h
        · cases h
        · exact .inr (List.mem_cons_of_mem _ h)
      · rcases List.mem_cons.1 h with h | h
        · rw [h] at hc; exact .inl hc
        · rcases wordsGo_mem l [] p h c hc with h | h
          · cases h
          · exact .inr (List.mem_cons_of_mem _ h)
    · rcases wordsGo_mem l (cur ++ [x]) p h c hc with h | h
      · rcases List.mem_append.1 h with h | h
        · exact .inl h
        · rw [List.mem_singleton.1 h]; exact .inr (List.mem_cons_self ..)
      · exact .inr (List.mem_cons_of_mem _ h)

theorem full_ascii {o : Nat} {m : Int} {l : List Nat} {j : Nat} (h : foreign l = false) : foreign (fullK o m (words l) j) = false := by
  refine foreign_false fun i hi => ?_
  have hm := getD_mem hi
  generalize (fullK o m (words l) j).getD i 0 = c at hm ⊢
  unfold fullK at hm
  split at hm
  · rw [List.getD_eq_getElem?_getD] at hm
    cases hq : (words l)[cntU o m j]? with
    | none => rw [hq] at hm; simp at hm
    | some p =>
      rw [hq] at hm
      rcases wordsGo_mem l [] p (List.mem_of_getElem? hq) c hm with h1 | h1
      · cases h1
      · exact foreign_mem h c h1
  · unfold defK at hm
    split at hm
    · rw [List.mem_singleton.1 hm]; decide
    · rw [List.mem_singleton.1 hm]; decide

set_option maxRecDepth 1000000 in
set_option maxHeartbeats 4000000 in
theorem parse_fields (o : Nat) (ho : o < 512) (hno : ¬ (o.testBit 1 = true ∧ o.testBit 7 = true)) (s : ByteArray) (hs : s.size < 500000000) (hs0 : 0 < s.size) (l : List Nat) (u : Bool) (hh : HeadAt s l u) (hb : begins l [64] = false) (h : FieldsFine o l) :
    ∃ f : Nat → Nat, ∀ w : World, Calls Tryz.prog 29 #[.agg #[.int .i64 o], .string s] w fun e w' => SchedRes f u e w' ∧ ∃ y : Ext w, w' = y.now := by
  obtain ⟨hfor, hwne, m, hm, hcnt, hfl⟩ := h
  have hll : l.length ≤ s.size := by
    rcases hh with ⟨_, _, h, _⟩ | ⟨Q, N, _, _, _, _, _, _, _, _, h, _⟩
    · rw [h, nats_length]; exact Nat.le_refl _
    · rw [h]
      have h1 := trim_small ((nats s).drop N)
      rw [List.length_drop, nats_length] at h1
      omega
  obtain ⟨f, hf⟩ := Go.Deep.choose_lt (α := Nat) (n := 6) (p := fun k v => v < 18446744073709551616 ∧ ∀ t : ByteArray, nats t = fullK o m (words l) k → ∀ (w : World) (r : Option Nat), MapsTo w k r →
      Calls Tryz.prog 50 #[.string t, .agg #[.int .u64 (kLow k : Nat), .int .u64 (kHigh k : Nat), .map r]] w fun e w' => e = .returned (.tuple #[.int .u64 v, .nilIface]) ∧ ∃ y : Ext w, w' = y.now) (fun k hk =>
    getField_l k (kLow k) (kHigh k) hk (by unfold kLow; split <;> omega) (by unfold kHigh; repeat (split <;> try omega)) (fullK o m (words l) k) (by have := full_small (o := o) (m := m) (l := l) (j := k) (s.size + 1) (by omega) (by omega); omega) (full_ascii hfor) (hfl k hk))
  refine ⟨f, fun w => ?_⟩
  have HF := Lib.hid hf
  have HH := Lib.hid hh
  have hp1 := Lib.hid (fun (W : World) => hasPrefix_any s ⟨#[84, 90, 61]⟩ W (by omega) (by decide))
  have hp2 := Lib.hid (fun (W : World) => hasPrefix_any s ⟨#[67, 82, 79, 78, 95, 84, 90, 61]⟩ W (by omega) (by decide))
  obtain ⟨b1, hb1⟩ : ∃ b, b = begins (nats s) [84, 90, 61] := ⟨_, rfl⟩
  obtain ⟨b2, hb2⟩ : ∃ b, b = begins (nats s) [67, 82, 79, 78, 95, 84, 90, 61] := ⟨_, rfl⟩
  rw [show nats ⟨#[84, 90, 61]⟩ = [84, 90, 61] from rfl, ← hb1] at hp1
  rw [show nats ⟨#[67, 82, 79, 78, 95, 84, 90, 61]⟩ = [67, 82, 79, 78, 95, 84, 90, 61] from rfl, ← hb2] at hp2
  have HB1 := Lib.hid hb1
  have HB2 := Lib.hid hb2
  have HBG := Lib.hid hb
  have HFOR := Lib.hid hfor
  have HWNE := Lib.hid hwne
  have HMM := Lib.hid hm
  have HCNT := Lib.hid hcnt
  have HNO := Lib.hid hno
  have k0 : ((s.size : Int) == 0) = false := beq_eq_false_iff_ne.2 (by omega)
  clear hf hh hb1 hb2 hb hfor hwne hm hcnt hfl hno
  go_enter Tryz.func29, Tryz.ntmps29
  go_upto_region 4 with fail
  obtain ⟨W0, hW0⟩ : ∃ W0 : Ext w, w.alloc (.cells #[.int .i64 o] 66) = W0.now := ⟨Ext.one _ _, rfl⟩
  have hbx : W0.now.cell? ⟨w.heap.size, 0, none⟩ = some (.int .i64 o) := by rw [← hW0]; simp [go_sem]
  have hbl : w.heap.size < W0.now.heap.size := by rw [← hW0]; simp
  rw [hW0]
  clear hW0
  obtain ⟨BX, hBX⟩ : ∃ B, B = w.heap.size := ⟨_, rfl⟩
  rw [← hBX] at hbx hbl ⊢
  clear hBX
  go_cut [28] (fun t28 wr => t28 = .bool (b1 || b2) ∧ wr = W0.now)
  case first =>
    cases b1
    · go_wp2_with (first
        | (go_at_call 42; (with_reducible refine (hp1.out _).mono ?_); rintro e9 w9 ⟨rfl, rfl⟩)
        | (go_at_call 42; (with_reducible refine (hp2.out _).mono ?_); rintro e9 w9 ⟨rfl, rfl⟩))
      go_meet
      case rel => exact ⟨rfl, rfl⟩
    · go_wp2_with (first
        | (go_at_call 42; (with_reducible refine (hp1.out _).mono ?_); rintro e9 w9 ⟨rfl, rfl⟩))
      go_meet
      case rel => exact ⟨rfl, rfl⟩
  case rest =>
    obtain ⟨rfl, hwc⟩ := hcut
    subst wc
    go_upto_if 28 with fail
    go_cut [1, 6] (fun t1 t6 wr => ∃ r p, t1 = .string r ∧ nats r = l ∧ t6 = .pointer p ∧ OwnPlace wr u p ∧ ∃ q : Ext W0.now, wr = q.now)
    case first =>
      rcases HH.out with ⟨h1, h2, h3, h4⟩ | ⟨Q, N, h1, h2, h3, h4, h5, h6, h7, h8, h9, h10⟩
      · have hb : (b1 || b2) = false := by rw [HB1.out, HB2.out, h1, h2]; rfl
        rw [hb]
        have H3 := Lib.hid h3
        have H4 := Lib.hid h4
        clear h1 h2 h3 h4 hb
        go_wp2_with fail
        go_meet
        case rel => exact ⟨s, none, rfl, H3.out.symm, rfl, .inl ⟨H4.out, rfl⟩, Ext.here _⟩
      · have hb : (b1 || b2) = true := by rw [HB1.out, HB2.out]; rcases h1 with h | h <;> rw [h] <;> simp
        rw [hb]
        have hi1 := Lib.hid (fun (W : World) => index_yes s 32 N h2 h6 h7 W (by omega))
        have hi2 := Lib.hid (fun (W : World) => index_yes s 61 Q (by omega) h4 h5 W (by omega))
        have hts := Lib.hid (fun (W : World) => trimSpace_any (s.extract N s.size) (by rw [ByteArray.size_extract]; omega) (by rw [nats_drop]; exact h8) W)
        obtain ⟨m1, hm1⟩ : ∃ m, m = Q + 1 := ⟨_, rfl⟩
        have hm1i : (Q : Int) + 1 = (m1 : Int) := by omega
        have hm1n : (m1 : Int) ≤ (N : Int) := by omega
        have hNs : (N : Int) ≤ (s.size : Int) := by omega
        rw [← hm1] at h10
        have H9 := Lib.hid h9
        clear h1 h2 h3 h4 h5 h6 h7 h8 h9 hb hm1
        rcases h10 with ⟨hu, hn⟩ | ⟨hu, hn⟩
        · have hll := Lib.hid (fun (W : World) => load_utc (s.extract m1 N) hn W)
          have HU := Lib.hid hu
          clear hu hn
          go_wp2_with (first
            | (go_at_call 43; (with_reducible refine (hi1.out _).mono ?_); rintro e9 w9 ⟨rfl, rfl⟩)
            | (go_at_call 43; (with_reducible refine (hi2.out _).mono ?_); rintro e9 w9 ⟨rfl, rfl⟩)
            | (go_at_call 44; (with_reducible refine (hll.out _).mono ?_); rintro e9 w9 ⟨⟨L, rfl, hL⟩, yl, rfl⟩)
            | (go_at_call 45; (with_reducible refine (hts.out _).mono ?_); rintro e9 w9 ⟨⟨r, rfl, hr⟩, rfl⟩))
          go_meet
          case rel => exact ⟨r, _, rfl, by rw [hr, H9.out, nats_drop], rfl, .inr ⟨HU.out, L, rfl, hL⟩, yl, rfl⟩
        · have hll := Lib.hid (fun (W : World) => load_local (s.extract m1 N) hn W)
          have HU := Lib.hid hu
          clear hu hn
          go_wp2_with (first
            | (go_at_call 43; (with_reducible refine (hi1.out _).mono ?_); rintro e9 w9 ⟨rfl, rfl⟩)
            | (go_at_call 43; (with_reducible refine (hi2.out _).mono ?_); rintro e9 w9 ⟨rfl, rfl⟩)
            | (go_at_call 44; (with_reducible refine (hll.out _).mono ?_); rintro e9 w9 ⟨rfl, rfl⟩)
            | (go_at_call 45; (with_reducible refine (hts.out _).mono ?_); rintro e9 w9 ⟨⟨r, rfl, hr⟩, rfl⟩))
          go_meet
          case rel => exact ⟨r, none, rfl, by rw [hr, H9.out, nats_drop], rfl, .inl ⟨HU.out, rfl⟩, Ext.here _⟩
    case rest =>
      obtain ⟨r, p, rfl, hr, rfl, hop, q, rfl⟩ := hcut
      have HR := Lib.hid hr
      have HOP := Lib.hid hop
      have hrs : r.size ≤ s.size := by rw [← nats_length r, hr]; exact hll
      have hpat := Lib.hid (fun (W : World) => (show Calls Tryz.prog 42 #[.string r, .string ⟨#[64]⟩] W fun e w' => e = .returned (.bool false) ∧ w' = W from by
        have h1 := hasPrefix_any r ⟨#[64]⟩ W (by omega) (by decide)
        rw [show nats ⟨#[64]⟩ = [64] from rfl, hr, HBG.out] at h1
        exact h1))
      have hfd := Lib.hid (fun (W : World) => zzFields_any r W (by omega) (by rw [hr]; exact HFOR.out))
      have hbq : q.now.cell? ⟨BX, 0, none⟩ = some (.int .i64 o) := (q.cell _ _ hbl).trans hbx
      have hblq : BX < q.now.heap.size := q.lt _ hbl
      clear hop hr hbx hbl hp1 hp2 k0
      go_upto_region 17 with (first
        | (go_at_call 42; (with_reducible refine (hpat.out _).mono ?_); rintro e9 w9 ⟨rfl, rfl⟩)
        | (go_at_call 47; (with_reducible refine (hfd.out _).mono ?_); rintro e9 w9 ⟨v, dw, rfl, ⟨hv, hown⟩, hdw, hlen, y1, rfl⟩; have HV := Lib.hid hv; have HOWN := Lib.hid hown; have HDW := Lib.hid hdw; clear hv hown hdw))
      have hdwp : 0 < dw.length := by
        rcases Nat.eq_zero_or_pos dw.length with h | h
        · have h1 := HDW.out
          rw [List.length_eq_zero_iff.1 h, HR.out] at h1
          exact absurd h1.symm HWNE.out
        · exact h
      obtain ⟨g, cap, rfl, hrw⟩ : ∃ g cap, v = .slice (some ⟨g, 0, none⟩) dw.length cap ∧ StrRow y1.now g dw := by
        rcases HV.out with ⟨h, _⟩ | h
        · rw [h] at hdwp; simp at hdwp
        · exact h
      have hgl := hrw.lt
      have HOWN2 := Lib.hid (ownsRow_mono (base' := q.now.heap.size) HOWN.out (by omega))
      have HRW := Lib.hid hrw
      obtain ⟨E, hE⟩ : ∃ E, E = y1.now.heap.size := ⟨_, rfl⟩
      have hEg : g ≠ E := by omega
      have HNM := Lib.hid (norm_any (w0 := q.now) (y1.trans (Ext.one y1.now (.cells #[.nilIface] 73))) (g := g) (cap := cap) (dw := dw) o ho m (hrw.ext (Ext.one _ _)) (ownsRow_ext HOWN2.out (Ext.one _ _)) (by omega) hdwp HNO.out HMM.out (by
        have h1 := HDW.out
        rw [HR.out] at h1
        have h2 := congrArg List.length h1
        rw [List.length_map, HCNT.out] at h2
        exact h2))
      have hby : y1.now.cell? ⟨BX, 0, none⟩ = some (.int .i64 o) := (y1.cell _ _ hblq).trans hbq
      have hbly : BX < y1.now.heap.size := y1.lt _ hblq
      clear hrw
      go_upto_region 18 with fail
      rw [← hE]
      have HEE := Lib.hid (fun (w' : World) (hkb : KeepBut (y1.trans (Ext.one y1.now (.cells #[.nilIface] 73))).now w' g) => (show w'.cell? ⟨E, 0, none⟩ = some .nilIface ∧ w'.frozen? ⟨E, 0, none⟩ = false ∧ E < w'.heap.size from by
        have hsz : (y1.trans (Ext.one y1.now (.cells #[.nilIface] 73))).now.heap.size = E + 1 := by
          show (y1.now.alloc (.cells #[.nilIface] 73)).heap.size = E + 1
          simp [hE]
        have hb := hkb.2 E (by rw [hsz]; omega) (Ne.symm hEg)
        have hn : (y1.trans (Ext.one y1.now (.cells #[.nilIface] 73))).now.heap[E]? = some (.cells #[.nilIface] 73 (0, 0)) := by
          rw [hE]
          exact heap_alloc_new y1.now _
        rw [hn] at hb
        refine ⟨by rw [cell_of_row _ _ _ _ _ _ hb]; rfl, ?_, by have := hkb.1; rw [hsz] at this; omega⟩
        unfold World.frozen?
        simp only [hb]
        simp))
      clear hE
      go_upto_region 22 with (go_at_call 48; refine (HNM.out).mono ?_; rintro e9 w9 ⟨⟨g6, ds6, rfl, h6, hrow6, hful⟩, hkb, yq, rfl⟩; have HEE2 := Lib.hid (HEE.out _ hkb); have hcE := HEE2.out.1; have hfE := HEE2.out.2.1; have hlE := HEE2.out.2.2; have hsE := setCell_as hcE; have HROW6 := Lib.hid hrow6; have HFUL := Lib.hid hful; clear hkb hrow6 hful)
      have hlg6 := HROW6.out.lt
      clear hsE
      obtain ⟨wn, hwn⟩ : ∃ wn, wn = yq.now := ⟨_, rfl⟩
      have HWN := Lib.hid hwn
      rw [← hwn] at HEE2 hcE hfE hlE HROW6 hlg6 ⊢
      clear hwn
      obtain ⟨z0, hz0⟩ : ∃ z0 : Ext wn, wn = z0.now := ⟨Ext.refl wn, rfl⟩
      have HCL := Lib.hid (fun (k : Nat) (hk : k < 6) (x : Ext wn) (r9 : Option Nat) (hr9 : MapsTo x.now k r9) => (show Calls Tryz.prog 49 #[.string (ds6.getD k ByteArray.empty), .agg #[.int .u64 (kLow k : Nat), .int .u64 (kHigh k : Nat), .map r9], .pointer (some ⟨E, 0, none⟩)] x.now fun e w' => e = .returned (.int .u64 (f k : Nat)) ∧ ∃ y : Ext x.now, w' = y.now from
        closure_any ((x.cell _ _ HEE2.out.2.2).trans HEE2.out.1) ((x.frozen _ _ HEE2.out.2.2).trans HEE2.out.2.1) (x.lt _ HEE2.out.2.2) (fun y => (HF.out k hk).2 _ (by
          have h1 := HFUL.out k hk
          rw [h1]
          have h2 := HDW.out
          rw [HR.out] at h2
          rw [h2]) y.now r9 (hr9.ext y))))
      have hgoal := hz0
      rw [hz0]
      clear hgoal hz0
      have hd0 : z0.now.cell? ⟨g6, 0, none⟩ = some (.string (ds6.getD 0 ByteArray.empty)) := by
        rw [z0.cell _ _ hlg6]
        exact HROW6.out.get 0 (by omega)
      have hcl0 := Lib.hid (fun (y : Ext z0.now) (r9 : Option Nat) (hr9 : MapsTo y.now 0 r9) => HCL.out 0 (by decide) (z0.trans y) r9 hr9)
      have hlz0 : g6 < z0.now.heap.size := z0.lt _ hlg6
      generalize ds6.getD 0 ByteArray.empty = d0 at *
      refine wp_region_plan 6 [(0, false), (1, false), (2, false), (3, false), (4, true), (5, true)] (fun w' => ∃ x : Ext z0.now, w' = x.now)
        (by kernel_rfl) (by kernel_rfl) (fun _ _ d _ _ h => by cases d <;> exact h) ⟨Ext.drewn _, rfl⟩ ?_
      iterate 4 (refine plan_read rfl (fun K hK => ?_); go_simp; refine hK _ ?_; clear hK K)
      refine plan_step rfl (fun K hK => ?_); go_simp
      refine (seconds_any _).mono ?_; rintro e9 w9 ⟨⟨r9, rfl, hr9⟩, yb, rfl⟩
      refine hK _ _ ⟨(Ext.drewn _).trans yb, rfl⟩ ?_; clear hK K
      refine plan_step rfl (fun K hK => ?_); go_simp
      refine (hcl0.out ((Ext.drewn _).trans yb) r9 hr9).mono ?_; rintro e9 w9 ⟨rfl, yc, rfl⟩
      refine hK _ _ ⟨((Ext.drewn _).trans yb).trans yc, rfl⟩ ?_; clear hK K
      refine plan_nil ?_
      simp only [List.drop_succ_cons, List.drop_zero]
      obtain ⟨z1, hz⟩ : ∃ z : Ext wn, yc.now = z.now := ⟨((z0.trans (Ext.drewn _)).trans yb).trans yc, rfl⟩
      rw [hz]
      clear hz hr9 hd0 hlz0
      go_upto_region 23 with fail
      have hd1 : z1.now.cell? ⟨g6, 1, none⟩ = some (.string (ds6.getD 1 ByteArray.empty)) := by
        rw [z1.cell _ _ hlg6]
        exact HROW6.out.get 1 (by omega)
      have hcl1 := Lib.hid (fun (y : Ext z1.now) (r9 : Option Nat) (hr9 : MapsTo y.now 1 r9) => HCL.out 1 (by decide) (z1.trans y) r9 hr9)
      have hlz1 : g6 < z1.now.heap.size := z1.lt _ hlg6
      generalize ds6.getD 1 ByteArray.empty = d1 at *
      refine wp_region_plan 6 [(0, false), (1, false), (2, false), (3, false), (4, true), (5, true)] (fun w' => ∃ x : Ext z1.now, w' = x.now)
        (by kernel_rfl) (by kernel_rfl) (fun _ _ d _ _ h => by cases d <;> exact h) ⟨Ext.drewn _, rfl⟩ ?_
      iterate 4 (refine plan_read rfl (fun K hK => ?_); go_simp; refine hK _ ?_; clear hK K)
      refine plan_step rfl (fun K hK => ?_); go_simp
      refine (minutes_any _).mono ?_; rintro e9 w9 ⟨⟨r9, rfl, hr9⟩, yb, rfl⟩
      refine hK _ _ ⟨(Ext.drewn _).trans yb, rfl⟩ ?_; clear hK K
      refine plan_step rfl (fun K hK => ?_); go_simp
      refine (hcl1.out ((Ext.drewn _).trans yb) r9 hr9).mono ?_; rintro e9 w9 ⟨rfl, yc, rfl⟩
      refine hK _ _ ⟨((Ext.drewn _).trans yb).trans yc, rfl⟩ ?_; clear hK K
      refine plan_nil ?_
      simp only [List.drop_succ_cons, List.drop_zero]
      obtain ⟨z2, hz⟩ : ∃ z : Ext wn, yc.now = z.now := ⟨((z1.trans (Ext.drewn _)).trans yb).trans yc, rfl⟩
      rw [hz]
      clear hz hr9 hd1 hlz1
      go_upto_region 24 with fail
      have hd2 : z2.now.cell? ⟨g6, 2, none⟩ = some (.string (ds6.getD 2 ByteArray.empty)) := by
        rw [z2.cell _ _ hlg6]
        exact HROW6.out.get 2 (by omega)
      have hcl2 := Lib.hid (fun (y : Ext z2.now) (r9 : Option Nat) (hr9 : MapsTo y.now 2 r9) => HCL.out 2 (by decide) (z2.trans y) r9 hr9)
      have hlz2 : g6 < z2.now.heap.size := z2.lt _ hlg6
      generalize ds6.getD 2 ByteArray.empty = d2 at *
      refine wp_region_plan 6 [(0, false), (1, false), (2, false), (3, false), (4, true), (5, true)] (fun w' => ∃ x : Ext z2.now, w' = x.now)
        (by kernel_rfl) (by kernel_rfl) (fun _ _ d _ _ h => by cases d <;> exact h) ⟨Ext.drewn _, rfl⟩ ?_
      iterate 4 (refine plan_read rfl (fun K hK => ?_); go_simp; refine hK _ ?_; clear hK K)
      refine plan_step rfl (fun K hK => ?_); go_simp
      refine (hours_any _).mono ?_; rintro e9 w9 ⟨⟨r9, rfl, hr9⟩, yb, rfl⟩
      refine hK _ _ ⟨(Ext.drewn _).trans yb, rfl⟩ ?_; clear hK K
      refine plan_step rfl (fun K hK => ?_); go_simp
      refine (hcl2.out ((Ext.drewn _).trans yb) r9 hr9).mono ?_; rintro e9 w9 ⟨rfl, yc, rfl⟩
      refine hK _ _ ⟨((Ext.drewn _).trans yb).trans yc, rfl⟩ ?_; clear hK K
      refine plan_nil ?_
      simp only [List.drop_succ_cons, List.drop_zero]
      obtain ⟨z3, hz⟩ : ∃ z : Ext wn, yc.now = z.now := ⟨((z2.trans (Ext.drewn _)).trans yb).trans yc, rfl⟩
      rw [hz]
      clear hz hr9 hd2 hlz2
      go_upto_region 25 with fail
      have hd3 : z3.now.cell? ⟨g6, 3, none⟩ = some (.string (ds6.getD 3 ByteArray.empty)) := by
        rw [z3.cell _ _ hlg6]
        exact HROW6.out.get 3 (by omega)
      have hcl3 := Lib.hid (fun (y : Ext z3.now) (r9 : Option Nat) (hr9 : MapsTo y.now 3 r9) => HCL.out 3 (by decide) (z3.trans y) r9 hr9)
      have hlz3 : g6 < z3.now.heap.size := z3.lt _ hlg6
      generalize ds6.getD 3 ByteArray.empty = d3 at *
      refine wp_region_plan 6 [(0, false), (1, false), (2, false), (3, false), (4, true), (5, true)] (fun w' => ∃ x : Ext z3.now, w' = x.now)
        (by kernel_rfl) (by kernel_rfl) (fun _ _ d _ _ h => by cases d <;> exact h) ⟨Ext.drewn _, rfl⟩ ?_
      iterate 4 (refine plan_read rfl (fun K hK => ?_); go_simp; refine hK _ ?_; clear hK K)
      refine plan_step rfl (fun K hK => ?_); go_simp
      refine (dom_any _).mono ?_; rintro e9 w9 ⟨⟨r9, rfl, hr9⟩, yb, rfl⟩
      refine hK _ _ ⟨(Ext.drewn _).trans yb, rfl⟩ ?_; clear hK K
      refine plan_step rfl (fun K hK => ?_); go_simp
      refine (hcl3.out ((Ext.drewn _).trans yb) r9 hr9).mono ?_; rintro e9 w9 ⟨rfl, yc, rfl⟩
      refine hK _ _ ⟨((Ext.drewn _).trans yb).trans yc, rfl⟩ ?_; clear hK K
      refine plan_nil ?_
      simp only [List.drop_succ_cons, List.drop_zero]
      obtain ⟨z4, hz⟩ : ∃ z : Ext wn, yc.now = z.now := ⟨((z3.trans (Ext.drewn _)).trans yb).trans yc, rfl⟩
      rw [hz]
      clear hz hr9 hd3 hlz3
      go_upto_region 26 with fail
      have hd4 : z4.now.cell? ⟨g6, 4, none⟩ = some (.string (ds6.getD 4 ByteArray.empty)) := by
        rw [z4.cell _ _ hlg6]
        exact HROW6.out.get 4 (by omega)
      have hcl4 := Lib.hid (fun (y : Ext z4.now) (r9 : Option Nat) (hr9 : MapsTo y.now 4 r9) => HCL.out 4 (by decide) (z4.trans y) r9 hr9)
      have hlz4 : g6 < z4.now.heap.size := z4.lt _ hlg6
      generalize ds6.getD 4 ByteArray.empty = d4 at *
      refine wp_region_plan 6 [(0, false), (1, false), (2, false), (3, false), (4, true), (5, true)] (fun w' => ∃ x : Ext z4.now, w' = x.now)
        (by kernel_rfl) (by kernel_rfl) (fun _ _ d _ _ h => by cases d <;> exact h) ⟨Ext.drewn _, rfl⟩ ?_
      iterate 4 (refine plan_read rfl (fun K hK => ?_); go_simp; refine hK _ ?_; clear hK K)
      refine plan_step rfl (fun K hK => ?_); go_simp
      refine (months_any _).mono ?_; rintro e9 w9 ⟨⟨r9, rfl, hr9⟩, yb, rfl⟩
      refine hK _ _ ⟨(Ext.drewn _).trans yb, rfl⟩ ?_; clear hK K
      refine plan_step rfl (fun K hK => ?_); go_simp
      refine (hcl4.out ((Ext.drewn _).trans yb) r9 hr9).mono ?_; rintro e9 w9 ⟨rfl, yc, rfl⟩
      refine hK _ _ ⟨((Ext.drewn _).trans yb).trans yc, rfl⟩ ?_; clear hK K
      refine plan_nil ?_
      simp only [List.drop_succ_cons, List.drop_zero]
      obtain ⟨z5, hz⟩ : ∃ z : Ext wn, yc.now = z.now := ⟨((z4.trans (Ext.drewn _)).trans yb).trans yc, rfl⟩
      rw [hz]
      clear hz hr9 hd4 hlz4
      go_upto_region 27 with fail
      have hd5 : z5.now.cell? ⟨g6, 5, none⟩ = some (.string (ds6.getD 5 ByteArray.empty)) := by
        rw [z5.cell _ _ hlg6]
        exact HROW6.out.get 5 (by omega)
      have hcl5 := Lib.hid (fun (y : Ext z5.now) (r9 : Option Nat) (hr9 : MapsTo y.now 5 r9) => HCL.out 5 (by decide) (z5.trans y) r9 hr9)
      have hlz5 : g6 < z5.now.heap.size := z5.lt _ hlg6
      generalize ds6.getD 5 ByteArray.empty = d5 at *
      refine wp_region_plan 6 [(0, false), (1, false), (2, false), (3, false), (4, true), (5, true)] (fun w' => ∃ x : Ext z5.now, w' = x.now)
        (by kernel_rfl) (by kernel_rfl) (fun _ _ d _ _ h => by cases d <;> exact h) ⟨Ext.drewn _, rfl⟩ ?_
      iterate 4 (refine plan_read rfl (fun K hK => ?_); go_simp; refine hK _ ?_; clear hK K)
      refine plan_step rfl (fun K hK => ?_); go_simp
      refine (dow_any _).mono ?_; rintro e9 w9 ⟨⟨r9, rfl, hr9⟩, yb, rfl⟩
      refine hK _ _ ⟨(Ext.drewn _).trans yb, rfl⟩ ?_; clear hK K
      refine plan_step rfl (fun K hK => ?_); go_simp
      refine (hcl5.out ((Ext.drewn _).trans yb) r9 hr9).mono ?_; rintro e9 w9 ⟨rfl, yc, rfl⟩
      refine hK _ _ ⟨((Ext.drewn _).trans yb).trans yc, rfl⟩ ?_; clear hK K
      refine plan_nil ?_
      simp only [List.drop_succ_cons, List.drop_zero]
      obtain ⟨z6, hz⟩ : ∃ z : Ext wn, yc.now = z.now := ⟨((z5.trans (Ext.drewn _)).trans yb).trans yc, rfl⟩
      rw [hz]
      clear hz hr9 hd5 hlz5
      have hcE6 : z6.now.cell? ⟨E, 0, none⟩ = some .nilIface := (z6.cell _ _ HEE2.out.2.2).trans HEE2.out.1
      have hlE6 : E < z6.now.heap.size := z6.lt _ HEE2.out.2.2
      clear hcE hfE hlE
      go_wp2_with fail
      go_ret2
      refine ⟨⟨z6.now.heap.size, p, rfl, ⟨?_, ?_, ?_, ?_, ?_, ?_, ?_, fun i hi => (HF.out i hi).1⟩, ?_, ?_⟩, ?_⟩
      · simp [go_sem]
      · simp [go_sem]
      · simp [go_sem]
      · simp [go_sem]
      · simp [go_sem]
      · simp [go_sem]
      · simp
      · simp [go_sem]
      · have h8 := HWN.out
        subst h8
        exact ((HOP.out.ext yq).ext z6).ext (Ext.one _ _)
      · have h8 := HWN.out
        subst h8
        exact ⟨((W0.trans q).trans yq).trans (z6.trans (Ext.one _ _)), rfl⟩

end Go.Proofs.YtopcjlimjkfoiaaGreatDoor
