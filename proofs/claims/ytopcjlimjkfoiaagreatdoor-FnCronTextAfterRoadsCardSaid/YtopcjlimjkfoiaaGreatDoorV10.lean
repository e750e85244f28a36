/-
FnCronTextAfterRoads: the calendar, the schedules, their texts and the zones, part 10 of 34.
-/
import Derived.Test.YtopcjlimjkfoiaaGreatDoorV09
set_option linter.all false
namespace Go.Proofs.YtopcjlimjkfoiaaGreatDoor
open Go.RowKit
attribute [local go_sem] Ext.cell Ext.frozen Ext.lt Ext.lt_add Ext.cell2 Ext.frozen2

def StrsRes (w : World) (P : List ByteArray → Prop) (e : Ending) (w' : World) : Prop :=
  ∃ (g cap : Nat) (ds : List ByteArray), e = .returned (.slice (some ⟨g, 0, none⟩) ds.length cap) ∧ P ds ∧ StrRow w' g ds ∧ ∃ y : Ext w, w' = y.now

theorem drop_split {l : List Nat} {a i : Nat} (ha : a ≤ i) (hi : i < l.length) : l.drop a = (l.take i).drop a ++ l.getD i 0 :: l.drop (i + 1) := by
  have h := List.take_append_drop i l
  conv => lhs; rw [← h]
  rw [List.drop_append_of_le_length (by rw [List.length_take]; omega), List.drop_eq_getElem_cons hi, List.getD_eq_getElem?_getD, List.getElem?_eq_getElem hi]
  rfl

set_option maxRecDepth 1000000 in
set_option maxHeartbeats 1000000 in
theorem pieces_any (s : ByteArray) (c : Nat) (hc : c < 256) (w : World) (hs : s.size < 100000000000) :
    Calls Tryz.prog 88 #[.string s, .int .u8 c] w fun e w' => StrsRes w (fun ds => ds.map nats = pieces c (nats s) ∧ ds.length ≤ s.size + 1) e w' := by
  go_enter Tryz.func88, Tryz.ntmps88
  go_wp2_with fail
  go_loopw [5, 6, 10] (fun t5 t6 t10 wr => ∃ (i fr : Nat) (v : Value) (ds : List ByteArray), t10 = .int .i64 i ∧ t6 = .int .i64 fr ∧ t5 = v ∧ fr ≤ i ∧ i ≤ s.size ∧ c ∉ ((nats s).take i).drop fr ∧ ds.map nats ++ pieces c ((nats s).drop fr) = pieces c (nats s) ∧ ds.length ≤ fr ∧
    wr.ownsRow w.heap.size 9 1 v ds.length (ds.map Value.string) ∧ ∃ x : Ext w, wr = x.now) (fun _ _ t _ => s.size - (intOf t).toNat)
  case atStart => exact ⟨0, 0, _, [], rfl, rfl, rfl, Nat.le_refl _, Nat.zero_le _, by simp, by simp, by simp, by simpa using World.ownsRow_nil w w.heap.size 9 1, Ext.here _⟩
  case round =>
    obtain ⟨i, fr, v, ds, rfl, rfl, rfl, hfi, hi, hno, hp, hd, hown, x, rfl⟩ := hrel
    have HNO := Lib.hid hno
    have HP := Lib.hid hp
    have HOWN := Lib.hid hown
    clear hno hp hown
    have h0 : (0 : Int) ≤ (i : Int) := by omega
    have h1 : (0 : Int) ≤ (fr : Int) := by omega
    have h2 : (fr : Int) ≤ (i : Int) := by omega
    have h3 : (i : Int) ≤ (s.size : Int) := by omega
    have h4 : (fr : Int) ≤ (s.size : Int) := by omega
    by_cases hlt : i < s.size
    · have hlt' : (i : Int) < (s.size : Int) := by omega
      have hl : i < (nats s).length := by rw [nats_length]; exact hlt
      have HS := Lib.hid (drop_split hfi hl)
      have HT := Lib.hid (take_snoc hl)
      rw [nats_at s i hlt] at HS HT
      by_cases hb : (s[i]'hlt).toNat = c
      · have hb' : (((s[i]'hlt).toNat : Int) == (c : Int)) = true := beq_iff_eq.2 (by omega)
        have HB := Lib.hid hb
        clear hb
        go_wp2_with (at_builtin; refine str_append _ rfl _ _ rfl w.heap.size ds.length u5 (ds.map Value.string) rfl (HOWN.out.alloc _) ⟨x.now.heap.size, 0, none⟩ 1 (s.extract fr i) rfl (by simp) (by omega) (by have := x.le; simp; omega) ?_)
        intro g cap w1 ho hg
        have hxe := Ext.grown (x.trans (Ext.one _ _)) rfl (HOWN.out.alloc (Obj.cells #[Value.string (s.extract fr i)] 9)) hg
        have HO := Lib.hid ho
        have HX := Lib.hid hxe
        clear ho hg hxe
        go_wp2_with fail
        refine ⟨⟨i + 1, i + 1, _, ds ++ [s.extract fr i], by simp, by simp, rfl, Nat.le_refl _, by omega, ?_, ?_, by simp; omega, ?_, HX.out⟩, by simp [intOf]; omega⟩
        · rw [List.drop_eq_nil_of_le (by rw [List.length_take]; omega)]; simp
        · have h5 := HS.out
          rw [HB.out] at h5
          rw [← HP.out, h5, pieces_at _ HNO.out, List.map_append, List.map_singleton, nats_extract]
          simp
        · rw [List.map_append, List.map_singleton, List.length_append, List.length_singleton]
          exact HO.out
      · have hb' : (((s[i]'hlt).toNat : Int) == (c : Int)) = false := beq_eq_false_iff_ne.2 (by omega)
        have HB := Lib.hid hb
        clear hb
        go_wp2_with fail
        refine ⟨⟨i + 1, fr, _, ds, by simp, rfl, rfl, by omega, by omega, ?_, HP.out, hd, HOWN.out, x, rfl⟩, by simp [intOf]; omega⟩
        rw [HT.out, List.drop_append_of_le_length (by rw [List.length_take, nats_length]; omega)]
        intro hm
        rcases List.mem_append.1 hm with hm | hm
        · exact HNO.out hm
        · exact HB.out (List.mem_singleton.1 hm).symm
    · have hlt' : ¬ (i : Int) < (s.size : Int) := by omega
      obtain rfl : i = s.size := by omega
      go_wp2_with (at_builtin; refine str_append _ rfl _ _ rfl w.heap.size ds.length u5 (ds.map Value.string) rfl (HOWN.out.alloc _) ⟨x.now.heap.size, 0, none⟩ 1 (s.extract fr s.size) rfl (by simp) (by omega) (by have := x.le; simp; omega) ?_)
      intro g cap w1 ho hg
      have hxe := Ext.grown (x.trans (Ext.one _ _)) rfl (HOWN.out.alloc (Obj.cells #[Value.string (s.extract fr s.size)] 9)) hg
      obtain ⟨g', cap', hgc, _, hgl, hcell⟩ := ownsRow_cell ho (by omega)
      have hgg : g' = g := by simp at hgc; exact hgc.1.symm
      subst hgg
      have HC := Lib.hid hcell
      have HX := Lib.hid hxe
      clear hcell hxe hgc ho hg
      go_wp2_with fail
      go_ret
      refine ⟨g', cap, ds ++ [s.extract fr s.size], by simp, ⟨?_, by simp; omega⟩, ⟨hgl, fun i hi => ?_⟩, HX.out⟩
      · have h5 := HNO.out
        rw [← nats_length s, List.take_length] at h5
        rw [← HP.out, pieces_none h5, List.map_append, List.map_singleton, nats_drop]
      · rw [HC.out i (by simpa using hi)]
        simp

end Go.Proofs.YtopcjlimjkfoiaaGreatDoor
namespace Go.Proofs.YtopcjlimjkfoiaaGreatDoor
open Go.RowKit
attribute [local go_sem] Ext.cell Ext.frozen Ext.lt Ext.lt_add Ext.cell2 Ext.frozen2

def wordsGo : List Nat → List Nat → List (List Nat)
  | [], cur => if cur = [] then [] else [cur]
  | c :: l, cur => if blank c then (if cur = [] then wordsGo l [] else cur :: wordsGo l []) else wordsGo l (cur ++ [c])
def words (l : List Nat) : List (List Nat) := wordsGo l []

def StrsVal (w : World) (v : Value) (ds : List ByteArray) : Prop :=
  (ds = [] ∧ v = .slice none 0 0) ∨ ∃ g cap, v = .slice (some ⟨g, 0, none⟩) ds.length cap ∧ StrRow w g ds

theorem StrsVal.of_own {w : World} {base : Nat} {v : Value} {ds : List ByteArray} (h : w.ownsRow base 9 1 v ds.length (ds.map Value.string)) (hv : ds = [] → v = .slice none 0 0) : StrsVal w v ds := by
  by_cases e : ds = []
  · exact .inl ⟨e, hv e⟩
  · have hl : 0 < ds.length := List.length_pos_iff.2 e
    obtain ⟨g, cap, rfl, _, hgl, hcell⟩ := ownsRow_cell h hl
    exact .inr ⟨g, cap, rfl, hgl, fun i hi => hcell i (by simpa using hi)⟩

def WordsRes (s : ByteArray) (w : World) (e : Ending) (w' : World) : Prop :=
  ∃ v ds, e = .returned v ∧ StrsVal w' v ds ∧ ds.map nats = words (nats s) ∧ ds.length ≤ s.size + 1 ∧ ∃ y : Ext w, w' = y.now

set_option maxRecDepth 1000000 in
set_option maxHeartbeats 2000000 in
theorem words_any (s : ByteArray) (w : World) (hs : s.size < 100000000000) :
    Calls Tryz.prog 35 #[.string s] w fun e w' => WordsRes s w e w' := by
  go_enter Tryz.func35, Tryz.ntmps35
  go_wp2_with fail
  go_loopw [3, 4, 8] (fun t3 t4 t8 wr => ∃ (i : Nat) (fr : Int) (v : Value) (ds : List ByteArray) (cur : List Nat), t8 = .int .i64 i ∧ t4 = .int .i64 fr ∧ t3 = v ∧ i ≤ s.size ∧ ((fr = -1 ∧ cur = []) ∨ (∃ f : Nat, fr = f ∧ f < i ∧ cur = ((nats s).take i).drop f)) ∧ ds.map nats ++ wordsGo ((nats s).drop i) cur = words (nats s) ∧ ds.length ≤ i ∧
    (ds = [] → v = .slice none 0 0) ∧ wr.ownsRow w.heap.size 9 1 v ds.length (ds.map Value.string) ∧ ∃ x : Ext w, wr = x.now) (fun _ _ t _ => s.size - (intOf t).toNat)
  case atStart => exact ⟨0, -1, _, [], [], rfl, rfl, rfl, Nat.zero_le _, .inl ⟨rfl, rfl⟩, by simp [words], by simp, fun _ => rfl, by simpa using World.ownsRow_nil w w.heap.size 9 1, Ext.here _⟩
  case round =>
    obtain ⟨i, fr, v, ds, cur, rfl, rfl, rfl, hi, hcur, hp, hd, hv, hown, x, rfl⟩ := hrel
    have HP := Lib.hid hp
    have HOWN := Lib.hid hown
    have HV := Lib.hid hv
    clear hp hown hv
    have h0 : (0 : Int) ≤ (i : Int) := by omega
    have h3 : (i : Int) ≤ (s.size : Int) := by omega
    by_cases hlt : i < s.size
    · have hlt' : (i : Int) < (s.size : Int) := by omega
      have hl : i < (nats s).length := by rw [nats_length]; exact hlt
      have HT := Lib.hid (take_snoc hl)
      have hdr := List.drop_eq_getElem_cons hl
      have hat := nats_at s i hlt
      rw [List.getD_eq_getElem?_getD, List.getElem?_eq_getElem hl] at hat
      rw [show (nats s)[i] = (s[i]'hlt).toNat from hat] at hdr
      rw [nats_at s i hlt] at HT
      have HDR := Lib.hid hdr
      have HB := Lib.hid (fun w => blank_any (s[i]'hlt).toNat (UInt8.toNat_lt _) w)
      clear hdr hat
      cases hb : blank (s[i]'hlt).toNat with
      | true =>
        rw [hb] at HB
        rcases hcur with ⟨rfl, rfl⟩ | ⟨f, rfl, hf, rfl⟩
        · go_wp2_with (go_at_call 38; (with_reducible refine (HB.out _).mono ?_); rintro e w1 ⟨rfl, rfl⟩)
          refine ⟨⟨i + 1, -1, _, ds, [], by simp, rfl, rfl, by omega, .inl ⟨rfl, rfl⟩, ?_, by omega, HV.out, HOWN.out, x, rfl⟩, by simp [intOf]; omega⟩
          have h5 := HP.out
          rw [HDR.out] at h5
          rw [← h5]
          simp only [wordsGo, hb, if_true]
        · have f0 : (0 : Int) ≤ (f : Int) := by omega
          have f1 : (f : Int) ≤ (i : Int) := by omega
          have f2 : (f : Int) ≤ (s.size : Int) := by omega
          go_wp2_with (first
            | (go_at_call 38; (with_reducible refine (HB.out _).mono ?_); rintro e w1 ⟨rfl, rfl⟩)
            | (at_builtin; refine str_append _ rfl _ _ rfl w.heap.size ds.length u3 (ds.map Value.string) rfl (HOWN.out.alloc _) ⟨x.now.heap.size, 0, none⟩ 1 (s.extract f i) rfl (by simp) (by omega) (by have := x.le; simp; omega) ?_))
          intro g cap w1 ho hg
          have hxe := Ext.grown (x.trans (Ext.one _ _)) rfl (HOWN.out.alloc (Obj.cells #[Value.string (s.extract f i)] 9)) hg
          have HO := Lib.hid ho
          have HX := Lib.hid hxe
          clear ho hg hxe
          go_wp2_with fail
          refine ⟨⟨i + 1, -1, _, ds ++ [s.extract f i], [], by simp, rfl, rfl, by omega, .inl ⟨rfl, rfl⟩, ?_, by simp; omega, fun h => absurd h (by simp), ?_, HX.out⟩, by simp [intOf]; omega⟩
          · have h5 := HP.out
            have hne : ¬ ((nats s).take i).drop f = [] := by
              intro e
              have := congrArg List.length e
              rw [List.length_drop, List.length_take, nats_length] at this
              simp at this
              omega
            rw [HDR.out] at h5
            rw [← h5]
            simp only [wordsGo, hb, if_true, if_neg hne, List.map_append, List.map_singleton, nats_extract]
            simp
          · rw [List.map_append, List.map_singleton, List.length_append, List.length_singleton]
            exact HO.out
      | false =>
        rw [hb] at HB
        rcases hcur with ⟨rfl, rfl⟩ | ⟨f, rfl, hf, rfl⟩
        · go_wp2_with (go_at_call 38; (with_reducible refine (HB.out _).mono ?_); rintro e w1 ⟨rfl, rfl⟩)
          refine ⟨⟨i + 1, i, _, ds, [(s[i]'hlt).toNat], by simp, rfl, rfl, by omega, .inr ⟨i, rfl, Nat.lt_succ_self _, ?_⟩, ?_, by omega, HV.out, HOWN.out, x, rfl⟩, by simp [intOf]; omega⟩
          · rw [HT.out, List.drop_append_of_le_length (by rw [List.length_take, nats_length]; omega), List.drop_eq_nil_of_le (by rw [List.length_take]; omega)]
            rfl
          · have h5 := HP.out
            rw [HDR.out] at h5
            rw [← h5]
            conv => rhs; unfold wordsGo
            rw [hb]
            rfl
        · have f0 : ¬ (f : Int) < 0 := by omega
          go_wp2_with (go_at_call 38; (with_reducible refine (HB.out _).mono ?_); rintro e w1 ⟨rfl, rfl⟩)
          refine ⟨⟨i + 1, f, _, ds, ((nats s).take i).drop f ++ [(s[i]'hlt).toNat], by simp, rfl, rfl, by omega, .inr ⟨f, rfl, by omega, ?_⟩, ?_, by omega, HV.out, HOWN.out, x, rfl⟩, by simp [intOf]; omega⟩
          · rw [HT.out, List.drop_append_of_le_length (by rw [List.length_take, nats_length]; omega)]
          · have h5 := HP.out
            rw [HDR.out] at h5
            rw [← h5]
            conv => rhs; unfold wordsGo
            rw [hb]
            rfl
    · have hlt' : ¬ (i : Int) < (s.size : Int) := by omega
      obtain rfl : i = s.size := by omega
      have hend : (nats s).drop s.size = [] := List.drop_eq_nil_of_le (by rw [nats_length]; exact Nat.le_refl _)
      have HE := Lib.hid hend
      clear hend
      rcases hcur with ⟨rfl, rfl⟩ | ⟨f, rfl, hf, rfl⟩
      · go_wp2_with fail
        go_ret
        have h5 := HP.out
        rw [HE.out] at h5
        exact ⟨_, ds, rfl, .of_own HOWN.out HV.out, by rw [← h5]; simp [wordsGo], by omega, x, rfl⟩
      · have f0 : (0 : Int) ≤ (f : Int) := by omega
        have f2 : (f : Int) ≤ (s.size : Int) := by omega
        have hne : ¬ ((nats s).take s.size).drop f = [] := by
          intro e
          have := congrArg List.length e
          rw [List.length_drop, List.length_take, nats_length] at this
          simp at this
          omega
        have HNE := Lib.hid hne
        clear hne
        go_wp2_with (at_builtin; refine str_append _ rfl _ _ rfl w.heap.size ds.length u3 (ds.map Value.string) rfl (HOWN.out.alloc _) ⟨x.now.heap.size, 0, none⟩ 1 (s.extract f s.size) rfl (by simp) (by omega) (by have := x.le; simp; omega) ?_)
        intro g cap w1 ho hg
        have hxe := Ext.grown (x.trans (Ext.one _ _)) rfl (HOWN.out.alloc (Obj.cells #[Value.string (s.extract f s.size)] 9)) hg
        have HO := Lib.hid ho
        have HX := Lib.hid hxe
        clear ho hg hxe
        go_wp2_with fail
        go_ret
        refine ⟨_, ds ++ [s.extract f s.size], rfl, .of_own (base := w.heap.size) ?_ (fun h => absurd h (by simp)), ?_, by simp; omega, HX.out⟩
        · rw [List.map_append, List.map_singleton, List.length_append, List.length_singleton]
          exact HO.out
        · have h5 := HP.out
          rw [HE.out] at h5
          rw [← h5]
          simp only [wordsGo, if_neg HNE.out, List.map_append, List.map_singleton, nats_extract]

end Go.Proofs.YtopcjlimjkfoiaaGreatDoor
namespace Go.Proofs.YtopcjlimjkfoiaaGreatDoor
open Go.RowKit
attribute [local go_sem] Ext.cell Ext.frozen Ext.lt Ext.lt_add Ext.cell2 Ext.frozen2

def takesK (o k : Nat) : Bool := match k with
  | 0 => o.testBit 0 || o.testBit 1
  | 1 => o.testBit 2
  | 2 => o.testBit 3
  | 3 => o.testBit 4
  | 4 => o.testBit 5
  | _ => o.testBit 6 || o.testBit 7
def missK (o : Nat) : Int := if o.testBit 1 then 0 else if o.testBit 7 then 5 else -1
def usedK (o : Nat) (m : Int) (k : Nat) : Bool := takesK o k && decide ((k : Int) ≠ m)
def cntK (o : Nat) : Nat → Nat
  | 0 => 0
  | k + 1 => cntK o k + if takesK o k then 1 else 0
def cntU (o : Nat) (m : Int) : Nat → Nat
  | 0 => 0
  | k + 1 => cntU o m k + if usedK o m k then 1 else 0
def defK (k : Nat) : List Nat := if k ≤ 2 then [48] else [42]
def fullK (o : Nat) (m : Int) (ws : List (List Nat)) (k : Nat) : List Nat := if usedK o m k then ws.getD (cntU o m k) [] else defK k

theorem and3 : ∀ o : Fin 512, ((o.val &&& 3 != 0) = (o.val.testBit 0 || o.val.testBit 1)) ∧ ((o.val &&& 192 != 0) = (o.val.testBit 6 || o.val.testBit 7)) := by decide +kernel

theorem cast_ne (n : Nat) : (((n : Nat) : Int) != 0) = (n != 0) := by
  cases n with
  | zero => rfl
  | succ n => rw [bne_iff_ne.2 (by omega : ((n + 1 : Nat) : Int) ≠ 0), bne_iff_ne.2 (by omega : n + 1 ≠ 0)]

theorem opt_and3 (o : Nat) (ho : o < 512) : (bits .and .i64 (o : Int) 3 != 0) = (o.testBit 0 || o.testBit 1) := by
  have h := (bits_nat .i64 63 (by decide) wraps_i64 o 3 (by omega) (by decide)).1
  rw [show ((3 : Nat) : Int) = 3 from rfl] at h
  rw [h, cast_ne]
  exact (and3 ⟨o, ho⟩).1
theorem opt_and192 (o : Nat) (ho : o < 512) : (bits .and .i64 (o : Int) 192 != 0) = (o.testBit 6 || o.testBit 7) := by
  have h := (bits_nat .i64 63 (by decide) wraps_i64 o 192 (by omega) (by decide)).1
  rw [show ((192 : Nat) : Int) = 192 from rfl] at h
  rw [h, cast_ne]
  exact (and3 ⟨o, ho⟩).2

set_option maxRecDepth 100000 in
theorem takes_any (o k : Nat) (ho : o < 512) (hk : k < 6) (w : World) :
    Calls Tryz.prog 66 #[.int .i64 o, .int .i64 k] w fun e w' => e = .returned (.bool (takesK o k)) ∧ ∃ y : Ext w, w' = y.now := by
  have h0 := opt_and3 o ho
  have h1 := opt_ne o 2 ho (by decide) 4 (by decide)
  have h2 := opt_ne o 3 ho (by decide) 8 (by decide)
  have h3 := opt_ne o 4 ho (by decide) 16 (by decide)
  have h4 := opt_ne o 5 ho (by decide) 32 (by decide)
  have h5 := opt_and192 o ho
  rcases (show k = 0 ∨ k = 1 ∨ k = 2 ∨ k = 3 ∨ k = 4 ∨ k = 5 by omega) with rfl | rfl | rfl | rfl | rfl | rfl
  all_goals
    unfold takesK
    generalize o.testBit 0 = b0 at *
    generalize o.testBit 1 = b1 at *
    go_enter Tryz.func66, Tryz.ntmps66
    go_wp2
    go_ret
    exact ⟨rfl, Ext.alloc1 _ _⟩

theorem miss_any (o : Nat) (ho : o < 512) (w : World) : Calls Tryz.prog 67 #[.int .i64 o] w fun e w' => e = .returned (.int .i64 (missK o)) ∧ w' = w := by
  have h1 := opt_ne o 1 ho (by decide) 2 (by decide)
  have h7 := opt_ne o 7 ho (by decide) 128 (by decide)
  unfold missK
  generalize o.testBit 1 = a at *
  generalize o.testBit 7 = b at *
  cases a <;> cases b
  all_goals
    go_enter Tryz.func67, Tryz.ntmps67
    go_wp2
    go_ret
    exact ⟨rfl, rfl⟩

def defB (k : Nat) : ByteArray := if k ≤ 2 then ⟨#[48]⟩ else ⟨#[42]⟩
theorem defB_nats (k : Nat) : nats (defB k) = defK k := by
  unfold defB defK
  split <;> rfl

theorem default_any (k : Nat) (w : World) : Calls Tryz.prog 68 #[.int .i64 k] w fun e w' => e = .returned (.string (defB k)) ∧ w' = w := by
  unfold defB
  by_cases h : k ≤ 2
  · rw [if_pos h]
    have h' : (k : Int) ≤ 2 := by omega
    go_enter Tryz.func68, Tryz.ntmps68
    go_wp2
    go_ret
    exact ⟨rfl, rfl⟩
  · rw [if_neg h]
    have h' : ¬ (k : Int) ≤ 2 := by omega
    go_enter Tryz.func68, Tryz.ntmps68
    go_wp2
    go_ret
    exact ⟨rfl, rfl⟩

theorem cntU_le (o : Nat) (m : Int) : ∀ (d k : Nat), cntU o m k ≤ cntU o m (k + d)
  | 0, k => Nat.le_refl _
  | d + 1, k => by
    have := cntU_le o m d k
    rw [show k + (d + 1) = k + d + 1 by omega]
    have e : cntU o m (k + d + 1) = cntU o m (k + d) + if usedK o m (k + d) then 1 else 0 := rfl
    rw [e]
    omega

theorem cntU_lt {o : Nat} {m : Int} {k : Nat} (hk : k < 6) (h : usedK o m k = true) : cntU o m k < cntU o m 6 := by
  have h1 := cntU_le o m (6 - (k + 1)) (k + 1)
  rw [show k + 1 + (6 - (k + 1)) = 6 by omega] at h1
  have h2 : cntU o m (k + 1) = cntU o m k + 1 := by
    conv => lhs; unfold cntU
    rw [h]; rfl
  omega

theorem cnt_all : ∀ o : Fin 512, cntU o.val (-1) 6 = cntK o.val 6 ∧ (0 ≤ missK o.val → cntU o.val (missK o.val) 6 + 1 = cntK o.val 6) ∧ cntK o.val 6 ≤ 6 := by decide +kernel

theorem StrRow.of6 {w : World} {g : Nat} {F : Nat → List Nat} (hg : g < w.heap.size) (h : ∀ j, j < 6 → ∃ d, w.cell? ⟨g, j, none⟩ = some (.string d) ∧ nats d = F j) :
    ∃ ds : List ByteArray, ds.length = 6 ∧ StrRow w g ds ∧ ∀ j, j < 6 → nats (ds.getD j ByteArray.empty) = F j := by
  obtain ⟨d0, h0, e0⟩ := h 0 (by decide)
  obtain ⟨d1, h1, e1⟩ := h 1 (by decide)
  obtain ⟨d2, h2, e2⟩ := h 2 (by decide)
  obtain ⟨d3, h3, e3⟩ := h 3 (by decide)
  obtain ⟨d4, h4, e4⟩ := h 4 (by decide)
  obtain ⟨d5, h5, e5⟩ := h 5 (by decide)
  refine ⟨[d0, d1, d2, d3, d4, d5], rfl, ⟨hg, fun i hi => ?_⟩, fun j hj => ?_⟩
  · have hi : i < 6 := hi
    rcases (show i = 0 ∨ i = 1 ∨ i = 2 ∨ i = 3 ∨ i = 4 ∨ i = 5 by omega) with rfl | rfl | rfl | rfl | rfl | rfl <;> assumption
  · rcases (show j = 0 ∨ j = 1 ∨ j = 2 ∨ j = 3 ∨ j = 4 ∨ j = 5 by omega) with rfl | rfl | rfl | rfl | rfl | rfl <;> assumption

theorem mk6 (W : World) : (Instr.makeSlice 85 (.int .i64 6) (.int .i64 6)).run Tryz.prog W = .ok (.slice (some ⟨W.heap.size, 0, none⟩) 6 6) (W.alloc (.cells #[.string ⟨#[]⟩, .string ⟨#[]⟩, .string ⟨#[]⟩, .string ⟨#[]⟩, .string ⟨#[]⟩, .string ⟨#[]⟩] 9)) := by
  obtain ⟨i, hi, hz0, hz1, hz2⟩ := info_parts str_info
  have := run_make (P := Tryz.prog) W 85 9 i _ (by kernel_rfl) hi hz0 .i64 .i64 6 6 (by decide) (by decide) (by omega) (by decide)
  rw [hz1] at this
  have e : madeCells (Value.string ByteArray.empty).cells (Int.toNat 6 * 1) = #[.string ⟨#[]⟩, .string ⟨#[]⟩, .string ⟨#[]⟩, .string ⟨#[]⟩, .string ⟨#[]⟩, .string ⟨#[]⟩] := by kernel_rfl
  rw [e] at this
  exact this
attribute [local go_sem] mk6

structure Fill6 (w : World) (G k : Nat) (F : Nat → List Nat) : Prop where
  lt : G < w.heap.size
  at_ : ∀ j, j < 6 → ∃ d, w.cell? ⟨G, j, none⟩ = some (.string d) ∧ (j < k → nats d = F j)
  fz : ∀ j, j < 6 → w.frozen? ⟨G, j, none⟩ = false

theorem Fill6.first (w : World) (F : Nat → List Nat) : Fill6 (w.alloc (.cells #[.string ⟨#[]⟩, .string ⟨#[]⟩, .string ⟨#[]⟩, .string ⟨#[]⟩, .string ⟨#[]⟩, .string ⟨#[]⟩] 9)) w.heap.size 0 F := by
  refine ⟨by simp, fun j hj => ⟨⟨#[]⟩, ?_, fun h => absurd h (Nat.not_lt_zero _)⟩, fun j hj => ?_⟩
  all_goals (rcases (show j = 0 ∨ j = 1 ∨ j = 2 ∨ j = 3 ∨ j = 4 ∨ j = 5 by omega) with rfl | rfl | rfl | rfl | rfl | rfl <;> simp [go_sem])

theorem Fill6.ext {w : World} {G k : Nat} {F : Nat → List Nat} (h : Fill6 w G k F) (x : Ext w) : Fill6 x.now G k F :=
  ⟨x.lt _ h.lt, fun j hj => by rw [x.cell _ _ h.lt]; exact h.at_ j hj, fun j hj => by rw [x.frozen _ _ h.lt]; exact h.fz j hj⟩

theorem Fill6.set {w : World} {G k k' : Nat} {F : Nat → List Nat} (h : Fill6 w G k F) (i : Nat) (hi : i < 6) (d : ByteArray) (hk : k' ≤ k + 1) (hd : i < k' → nats d = F i) (hik : k' = k ∨ i = k) : Fill6 (w.setCell ⟨G, i, none⟩ (.string d)) G k' F := by
  obtain ⟨hlt, hat, hfz⟩ := h
  refine ⟨by simpa [World.setCell] using hlt, fun j hj => ?_, fun j hj => ?_⟩
  · obtain ⟨e, he, hf⟩ := hat j hj
    obtain ⟨e2, he2, _⟩ := hat i hi
    by_cases c : j = i
    · subst c
      exact ⟨d, by simp [go_sem, he2], hd⟩
    · refine ⟨e, by simp [go_sem, he, c], fun hjk => hf (by omega)⟩
  · have := hfz j hj
    simp [go_sem, this]

def FillRes (o : Nat) (ws : List (List Nat)) (w : World) (e : Ending) (w' : World) : Prop :=
  (∃ v ok, e = .returned (.tuple #[v, .bool ok]) ∧ (ok = true → ∃ (m : Int) (g cap : Nat) (ds : List ByteArray), (m = -1 ∨ (0 ≤ m ∧ m = missK o)) ∧ ws.length = cntU o m 6 ∧ v = .slice (some ⟨g, 0, none⟩) 6 cap ∧ ds.length = 6 ∧ StrRow w' g ds ∧ ∀ j, j < 6 → nats (ds.getD j ByteArray.empty) = fullK o m ws j)) ∧ ∃ y : Ext w, w' = y.now

set_option maxRecDepth 1000000 in
set_option maxHeartbeats 2000000 in
theorem fill_any {w : World} {v : Value} {ds : List ByteArray} (hv : StrsVal w v ds) (o : Nat) (ho : o < 512) (hlen : ds.length < 100000000000) :
    Calls Tryz.prog 36 #[v, .int .i64 o] w fun e w' => FillRes o (ds.map nats) w e w' := by
  have HT := Lib.hid (fun (k : Nat) (hk : k < 6) (x : Ext w) => calls_ext (x := x) (takes_any o k ho hk x.now))
  have HM := Lib.hid (fun w => miss_any o ho w)
  have H2 := Lib.hid (fun w => two_any o ho w)
  obtain ⟨n, c, p, rfl, hn⟩ : ∃ (n c : Nat) (p : Option Addr), v = .slice p n c ∧ n = ds.length := by
    rcases hv with ⟨rfl, rfl⟩ | ⟨g, cap, rfl, _⟩
    · exact ⟨0, 0, none, rfl, rfl⟩
    · exact ⟨_, cap, _, rfl, rfl⟩
  have HV := Lib.hid hv
  have HN := Lib.hid hn
  have hnn : (n : Int) < 100000000000 := by omega
  clear hv hn
  cases h2 : (o.testBit 1 && o.testBit 7) with
  | true =>
    rw [h2] at H2
    go_enter Tryz.func36, Tryz.ntmps36
    go_wp2_with (go_at_call 17; (with_reducible refine (H2.out _).mono ?_); rintro e w1 ⟨rfl, rfl⟩)
    go_ret2
    exact ⟨⟨_, false, rfl, fun h => Bool.noConfusion h⟩, Ext.here _⟩
  | false =>
    rw [h2] at H2
    go_enter Tryz.func36, Tryz.ntmps36
    go_wp2_with (go_at_call 17; (with_reducible refine (H2.out _).mono ?_); rintro e w1 ⟨rfl, rfl⟩)
    go_loopw [6, 14] (fun t6 t14 wr => ∃ k : Nat, t14 = .int .i64 k ∧ t6 = .int .i64 (cntK o k) ∧ k ≤ 6 ∧ cntK o k ≤ k ∧ ∃ x : Ext w1, wr = x.now) (fun _ t _ => 6 - (intOf t).toNat)
    case atStart => exact ⟨0, rfl, rfl, by decide, Nat.le_refl _, Ext.here _⟩
    case round =>
      obtain ⟨k, rfl, rfl, hk, hck, x, rfl⟩ := hrel
      by_cases hlt : k < 6
      · have hlt' : (k : Int) < 6 := by omega
        have HTk := Lib.hid (HT.out k hlt)
        have e1 : cntK o (k + 1) = cntK o k + if takesK o k then 1 else 0 := rfl
        have E1 := Lib.hid e1
        clear e1
        cases ht : takesK o k with
        | true =>
          rw [ht] at HTk E1
          go_wp2_with (go_at_call 66; (with_reducible refine (HTk.out _).mono ?_); rintro e w1 ⟨rfl, y, rfl⟩)
          refine ⟨⟨k + 1, by simp, ?_, by omega, ?_, y, rfl⟩, by simp [intOf]; omega⟩
          · rw [E1.out]; simp
          · rw [E1.out]; simp; try omega
        | false =>
          rw [ht] at HTk E1
          go_wp2_with (go_at_call 66; (with_reducible refine (HTk.out _).mono ?_); rintro e w1 ⟨rfl, y, rfl⟩)
          refine ⟨⟨k + 1, by simp, ?_, by omega, ?_, y, rfl⟩, by simp [intOf]; omega⟩
          · rw [E1.out]; simp
          · rw [E1.out]; simp; try omega
      · have hlt' : ¬ (k : Int) < 6 := by omega
        obtain rfl : k = 6 := by omega
        obtain ⟨ca1, ca2, ca3⟩ := cnt_all ⟨o, ho⟩
        simp only at ca1 ca2 ca3
        have CA1 := Lib.hid ca1
        have CA2 := Lib.hid ca2
        clear ca1 ca2
        generalize cntK o 6 = t at *
        obtain ⟨ms, hms⟩ : ∃ ms, ms = missK o := ⟨_, rfl⟩
        rw [← hms] at HM CA2
        have HMS := Lib.hid hms
        clear hms
        by_cases hq : n = t
        · have hq' : ((n : Int) == (t : Int)) = true := beq_iff_eq.2 (by omega)
          have HQ := Lib.hid hq
          clear hq
          go_wp2_with (go_at_call 67; (with_reducible refine (HM.out _).mono ?_); rintro e w1 ⟨rfl, rfl⟩)
          have HFA := Lib.hid (Fill6.first x.now (fullK o (-1) (ds.map nats)))
          have HCNT := Lib.hid (show ds.length = cntU o (-1) 6 from by rw [CA1.out, ← HQ.out, HN.out])
          have hGle := x.le
          have HEX := Lib.hid (show ∃ y : Ext w1, x.now.alloc (Obj.cells #[.string ⟨#[]⟩, .string ⟨#[]⟩, .string ⟨#[]⟩, .string ⟨#[]⟩, .string ⟨#[]⟩, .string ⟨#[]⟩] 9) = y.now from ⟨x.trans (Ext.one _ _), rfl⟩)
          generalize x.now.alloc (Obj.cells #[.string ⟨#[]⟩, .string ⟨#[]⟩, .string ⟨#[]⟩, .string ⟨#[]⟩, .string ⟨#[]⟩, .string ⟨#[]⟩] 9) = W1 at *
          generalize x.now.heap.size = G at *
          clear x
          go_loopw [10, 41] (fun t10 t41 wr => ∃ k : Nat, t41 = .int .i64 k ∧ t10 = .int .i64 (cntU o (-1) k) ∧ k ≤ 6 ∧ Fill6 wr G k (fullK o (-1) (ds.map nats)) ∧ ∃ y : Ext w1, wr = y.now) (fun _ t _ => 6 - (intOf t).toNat)
          case atStart => exact ⟨0, rfl, rfl, by decide, HFA.out, HEX.out⟩
          case round =>
            obtain ⟨k, rfl, rfl, hk, hF, y, rfl⟩ := hrel
            by_cases hlt : k < 6
            · have hlt' : (k : Int) < 6 := by omega
              have hD := Lib.hid (default_any k y.now)
              have hTk := Lib.hid (fun W => takes_any o k ho hlt W)
              obtain ⟨d0, hc0, -⟩ := hF.at_ k hlt
              have hfz := hF.fz k hlt
              have hGl := hF.lt
              have HF := Lib.hid hF
              have e1 : cntU o (-1) (k + 1) = cntU o (-1) k + if usedK o (-1) k then 1 else 0 := rfl
              have E1 := Lib.hid e1
              have hcl := fun hu : usedK o (-1) k = true => cntU_lt hlt hu
              have HCL := Lib.hid hcl
              clear hF e1 hcl
              have hne := fun (hu : usedK o (-1) k = true) => (show takesK o k = true ∧ (k : Int) ≠ (-1) by unfold usedK at hu; simpa using hu)
              have HNE := Lib.hid hne
              clear hne
              cases hu : usedK o (-1) k with
              | true =>
                have hn' : cntU o (-1) k < ds.length := by rw [HCNT.out]; exact HCL.out hu
                obtain ⟨ht, hm⟩ := HNE.out hu
                have hm' : ((k : Int) == (-1)) = false := beq_eq_false_iff_ne.2 hm
                have HU := Lib.hid hu
                rw [hu] at E1
                rw [ht] at hTk
                obtain ⟨g0, rfl, hrow⟩ : ∃ g0, p = some ⟨g0, 0, none⟩ ∧ StrRow w1 g0 ds := by
                  rcases HV.out with ⟨e, _⟩ | ⟨g0, cap0, e, hrow⟩
                  · rw [e] at hn'; exact absurd hn' (Nat.not_lt_zero _)
                  · simp only [Value.slice.injEq] at e
                    exact ⟨g0, e.1, hrow⟩
                have HROW := Lib.hid hrow
                have n1 : ((cntU o (-1) k : Nat) : Int) < (n : Int) := by have := HN.out; omega
                have n2 : (0 : Int) ≤ ((cntU o (-1) k : Nat) : Int) := by omega
                have HN3 : ∃ q, q = cntU o (-1) k ∧ q < 100000000000 := ⟨_, rfl, by first | omega | (obtain ⟨q, rfl, h9⟩ := HLEN; omega)⟩
                have HFK := Lib.hid (show fullK o (-1) (ds.map nats) k = (ds.map nats).getD (cntU o (-1) k) [] by unfold fullK; rw [hu]; rfl)
                have HN' := Lib.hid hn'
                generalize cntU o (-1) k = n' at *
                clear hu ht hm hn' hrow hq' hck ca3 hnn h2 hlen
                go_wp2_with (first
                  | (go_at_call 68; (with_reducible refine hD.out.mono ?_); rintro e w2 ⟨rfl, rfl⟩)
                  | (go_at_call 66; (with_reducible refine (hTk.out _).mono ?_); rintro e w3 ⟨rfl, z, rfl⟩;
                     have hF2 := (HF.out.set (k' := k) k hlt (defB k) (Nat.le_succ _) (fun h => absurd h (Nat.lt_irrefl _)) (.inl rfl)).ext z;
                     obtain ⟨y3, hy3⟩ := Ext.furth (Ext.of (y.below.setCell (p := ⟨G, k, none⟩) hGle (.string (defB k)))) z;
                     rw [hy3] at hF2 ⊢; clear hy3 z;
                     obtain ⟨d1, c1, -⟩ := hF2.at_ k hlt; have f1 := hF2.fz k hlt; have l1 := hF2.lt; have HF2 := Lib.hid hF2; clear hF2 hc0 hfz;
                     have cw := (HROW.out.ext y3).get n' HN'.out))
                refine ⟨⟨k + 1, by simp, ?_, by omega, ?_, Ext.of (y3.below.setCell (p := ⟨G, k, none⟩) hGle _)⟩, by simp [intOf]; omega⟩
                · rw [E1.out]; simp; try (obtain ⟨q, rfl, h9⟩ := HN3; unfold wrap64; omega)
                · refine HF2.out.set k hlt _ (Nat.le_refl _) (fun _ => ?_) (.inr rfl)
                  rw [HFK.out]
                  simp [List.getD_eq_getElem?_getD, List.getElem?_eq_getElem HN'.out]
              | false =>
                rw [hu] at E1
                have HFK := Lib.hid (show fullK o (-1) (ds.map nats) k = defK k by unfold fullK; rw [hu]; rfl)
                generalize hnn' : cntU o (-1) k = n' at *
                have hun : takesK o k = false ∨ (k : Int) = (-1) := by
                  unfold usedK at hu
                  by_cases e : (k : Int) = (-1)
                  · exact .inr e
                  · rw [decide_eq_true e, Bool.and_true] at hu; exact .inl hu
                clear hu hnn'
                rcases hun with ht | hm
                · rw [ht] at hTk
                  go_wp2_with (first
                    | (go_at_call 68; (with_reducible refine hD.out.mono ?_); rintro e w2 ⟨rfl, rfl⟩)
                    | (go_at_call 66; (with_reducible refine (hTk.out _).mono ?_); rintro e w3 ⟨rfl, z, rfl⟩))
                  refine ⟨⟨k + 1, by simp, ?_, by omega, ?_, Ext.furth (Ext.of (y.below.setCell (p := ⟨G, k, none⟩) hGle _)) z⟩, by simp [intOf]; omega⟩
                  · rw [E1.out]; simp
                  · exact (HF.out.set k hlt _ (Nat.le_refl _) (fun _ => by rw [HFK.out, defB_nats]) (.inr rfl)).ext z
                · exact absurd hm (by omega)
            · have hlt' : ¬ (k : Int) < 6 := by omega
              obtain rfl : k = 6 := by omega
              have HF := Lib.hid hF
              clear hF
              go_wp2_with fail
              go_ret2
              obtain ⟨es, he1, he2, he3⟩ := StrRow.of6 (F := fullK o (-1) (ds.map nats)) HF.out.lt (fun j hj => by obtain ⟨d, a, b⟩ := HF.out.at_ j hj; exact ⟨d, a, b hj⟩)
              exact ⟨⟨_, true, rfl, fun _ => ⟨(-1), G, 6, es, .inl rfl, by rw [List.length_map]; exact HCNT.out, rfl, he1, he2, he3⟩⟩, y, rfl⟩
        · have hq' : ((n : Int) == (t : Int)) = false := beq_eq_false_iff_ne.2 (by omega)
          have HLEN : ∃ q, q = ds.length ∧ q < 100000000000 := ⟨_, rfl, hlen⟩
          have tw : wrap64 ((t : Int) - 1) = (t : Int) - 1 := by unfold wrap64; omega
          clear hck ca3 hlen hnn
          by_cases hms0 : 0 ≤ ms
          · have hms1 : decide (ms < 0) = false := decide_eq_false (by omega)
            by_cases hq2 : n + 1 = t
            · have hq1 : ((n : Int) != (t : Int) - 1) = false := bne_eq_false_iff_eq.2 (by omega)
              have HQ2 := Lib.hid hq2
              clear hq hq2
              go_wp2_with (go_at_call 67; (with_reducible refine (HM.out _).mono ?_); rintro e w1 ⟨rfl, rfl⟩)
              clear hq1 hms1 hq' tw
              have HFA := Lib.hid (Fill6.first x.now (fullK o ms (ds.map nats)))
              have HCNT := Lib.hid (show ds.length = cntU o ms 6 from by have h8 := CA2.out hms0; have h9 := HQ2.out; have h10 := HN.out; omega)
              have hGle := x.le
              have HEX := Lib.hid (show ∃ y : Ext w1, x.now.alloc (Obj.cells #[.string ⟨#[]⟩, .string ⟨#[]⟩, .string ⟨#[]⟩, .string ⟨#[]⟩, .string ⟨#[]⟩, .string ⟨#[]⟩] 9) = y.now from ⟨x.trans (Ext.one _ _), rfl⟩)
              generalize x.now.alloc (Obj.cells #[.string ⟨#[]⟩, .string ⟨#[]⟩, .string ⟨#[]⟩, .string ⟨#[]⟩, .string ⟨#[]⟩, .string ⟨#[]⟩] 9) = W1 at *
              generalize x.now.heap.size = G at *
              clear x
              go_loopw [10, 41] (fun t10 t41 wr => ∃ k : Nat, t41 = .int .i64 k ∧ t10 = .int .i64 (cntU o ms k) ∧ k ≤ 6 ∧ Fill6 wr G k (fullK o ms (ds.map nats)) ∧ ∃ y : Ext w1, wr = y.now) (fun _ t _ => 6 - (intOf t).toNat)
              case atStart => exact ⟨0, rfl, rfl, by decide, HFA.out, HEX.out⟩
              case round =>
                obtain ⟨k, rfl, rfl, hk, hF, y, rfl⟩ := hrel
                by_cases hlt : k < 6
                · have hlt' : (k : Int) < 6 := by omega
                  have hD := Lib.hid (default_any k y.now)
                  have hTk := Lib.hid (fun W => takes_any o k ho hlt W)
                  obtain ⟨d0, hc0, -⟩ := hF.at_ k hlt
                  have hfz := hF.fz k hlt
                  have hGl := hF.lt
                  have HF := Lib.hid hF
                  have e1 : cntU o ms (k + 1) = cntU o ms k + if usedK o ms k then 1 else 0 := rfl
                  have E1 := Lib.hid e1
                  have hcl := fun hu : usedK o ms k = true => cntU_lt hlt hu
                  have HCL := Lib.hid hcl
                  clear hF e1 hcl
                  have hne := fun (hu : usedK o ms k = true) => (show takesK o k = true ∧ (k : Int) ≠ ms by unfold usedK at hu; simpa using hu)
                  have HNE := Lib.hid hne
                  clear hne
                  cases hu : usedK o ms k with
                  | true =>
                    have hn' : cntU o ms k < ds.length := by rw [HCNT.out]; exact HCL.out hu
                    obtain ⟨ht, hm⟩ := HNE.out hu
                    have hm' : ((k : Int) == ms) = false := beq_eq_false_iff_ne.2 hm
                    have HU := Lib.hid hu
                    rw [hu] at E1
                    rw [ht] at hTk
                    obtain ⟨g0, rfl, hrow⟩ : ∃ g0, p = some ⟨g0, 0, none⟩ ∧ StrRow w1 g0 ds := by
                      rcases HV.out with ⟨e, _⟩ | ⟨g0, cap0, e, hrow⟩
                      · rw [e] at hn'; exact absurd hn' (Nat.not_lt_zero _)
                      · simp only [Value.slice.injEq] at e
                        exact ⟨g0, e.1, hrow⟩
                    have HROW := Lib.hid hrow
                    have n1 : ((cntU o ms k : Nat) : Int) < (n : Int) := by have := HN.out; omega
                    have n2 : (0 : Int) ≤ ((cntU o ms k : Nat) : Int) := by omega
                    have HN3 : ∃ q, q = cntU o ms k ∧ q < 100000000000 := ⟨_, rfl, by first | omega | (obtain ⟨q, rfl, h9⟩ := HLEN; omega)⟩
                    have HFK := Lib.hid (show fullK o ms (ds.map nats) k = (ds.map nats).getD (cntU o ms k) [] by unfold fullK; rw [hu]; rfl)
                    have HN' := Lib.hid hn'
                    generalize cntU o ms k = n' at *
                    clear hu ht hm hn' hrow h2
                    go_wp2_with (first
                      | (go_at_call 68; (with_reducible refine hD.out.mono ?_); rintro e w2 ⟨rfl, rfl⟩)
                      | (go_at_call 66; (with_reducible refine (hTk.out _).mono ?_); rintro e w3 ⟨rfl, z, rfl⟩;
                         have hF2 := (HF.out.set (k' := k) k hlt (defB k) (Nat.le_succ _) (fun h => absurd h (Nat.lt_irrefl _)) (.inl rfl)).ext z;
                         obtain ⟨y3, hy3⟩ := Ext.furth (Ext.of (y.below.setCell (p := ⟨G, k, none⟩) hGle (.string (defB k)))) z;
                         rw [hy3] at hF2 ⊢; clear hy3 z;
                         obtain ⟨d1, c1, -⟩ := hF2.at_ k hlt; have f1 := hF2.fz k hlt; have l1 := hF2.lt; have HF2 := Lib.hid hF2; clear hF2 hc0 hfz;
                         have cw := (HROW.out.ext y3).get n' HN'.out))
                    refine ⟨⟨k + 1, by simp, ?_, by omega, ?_, Ext.of (y3.below.setCell (p := ⟨G, k, none⟩) hGle _)⟩, by simp [intOf]; omega⟩
                    · rw [E1.out]; simp; try (obtain ⟨q, rfl, h9⟩ := HN3; unfold wrap64; omega)
                    · refine HF2.out.set k hlt _ (Nat.le_refl _) (fun _ => ?_) (.inr rfl)
                      rw [HFK.out]
                      simp [List.getD_eq_getElem?_getD, List.getElem?_eq_getElem HN'.out]
                  | false =>
                    rw [hu] at E1
                    have HFK := Lib.hid (show fullK o ms (ds.map nats) k = defK k by unfold fullK; rw [hu]; rfl)
                    generalize hnn' : cntU o ms k = n' at *
                    have hun : takesK o k = false ∨ (k : Int) = ms := by
                      unfold usedK at hu
                      by_cases e : (k : Int) = ms
                      · exact .inr e
                      · rw [decide_eq_true e, Bool.and_true] at hu; exact .inl hu
                    clear hu hnn'
                    rcases hun with ht | hm
                    · rw [ht] at hTk
                      go_wp2_with (first
                        | (go_at_call 68; (with_reducible refine hD.out.mono ?_); rintro e w2 ⟨rfl, rfl⟩)
                        | (go_at_call 66; (with_reducible refine (hTk.out _).mono ?_); rintro e w3 ⟨rfl, z, rfl⟩))
                      refine ⟨⟨k + 1, by simp, ?_, by omega, ?_, Ext.furth (Ext.of (y.below.setCell (p := ⟨G, k, none⟩) hGle _)) z⟩, by simp [intOf]; omega⟩
                      · rw [E1.out]; simp
                      · exact (HF.out.set k hlt _ (Nat.le_refl _) (fun _ => by rw [HFK.out, defB_nats]) (.inr rfl)).ext z
                    · subst hm
                      cases ht : takesK o k
                      all_goals
                        rw [ht] at hTk
                        go_wp2_with (first
                          | (go_at_call 68; (with_reducible refine hD.out.mono ?_); rintro e w2 ⟨rfl, rfl⟩)
                          | (go_at_call 66; (with_reducible refine (hTk.out _).mono ?_); rintro e w3 ⟨rfl, z, rfl⟩))
                        refine ⟨⟨k + 1, by simp, ?_, by omega, ?_, Ext.furth (Ext.of (y.below.setCell (p := ⟨G, k, none⟩) hGle _)) z⟩, by simp [intOf]; omega⟩
                        · rw [E1.out]; simp
                        · exact (HF.out.set k hlt _ (Nat.le_refl _) (fun _ => by rw [HFK.out, defB_nats]) (.inr rfl)).ext z
                · have hlt' : ¬ (k : Int) < 6 := by omega
                  obtain rfl : k = 6 := by omega
                  have HF := Lib.hid hF
                  clear hF
                  go_wp2_with fail
                  go_ret2
                  obtain ⟨es, he1, he2, he3⟩ := StrRow.of6 (F := fullK o ms (ds.map nats)) HF.out.lt (fun j hj => by obtain ⟨d, a, b⟩ := HF.out.at_ j hj; exact ⟨d, a, b hj⟩)
                  exact ⟨⟨_, true, rfl, fun _ => ⟨ms, G, 6, es, .inr ⟨hms0, HMS.out⟩, by rw [List.length_map]; exact HCNT.out, rfl, he1, he2, he3⟩⟩, y, rfl⟩
            · have hq1 : ((n : Int) != (t : Int) - 1) = true := bne_iff_ne.2 (by omega)
              clear hq hq2
              go_wp2_with (go_at_call 67; (with_reducible refine (HM.out _).mono ?_); rintro e w1 ⟨rfl, rfl⟩)
              go_ret2
              exact ⟨⟨_, false, rfl, fun h => Bool.noConfusion h⟩, x, rfl⟩
          · have hms1 : decide (ms < 0) = true := decide_eq_true (by omega)
            clear hq
            go_wp2_with (go_at_call 67; (with_reducible refine (HM.out _).mono ?_); rintro e w1 ⟨rfl, rfl⟩)
            go_ret2
            exact ⟨⟨_, false, rfl, fun h => Bool.noConfusion h⟩, x, rfl⟩

end Go.Proofs.YtopcjlimjkfoiaaGreatDoor
