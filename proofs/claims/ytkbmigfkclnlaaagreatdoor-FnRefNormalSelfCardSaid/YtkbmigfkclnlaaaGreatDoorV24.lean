/-
FnRefNormalSelf: the regular expressions, the digest and the reference, part 24 of 26.
-/
import Derived.Test.YtkbmigfkclnlaaaGreatDoorV23
import Derived.Laws.IdiomStrings
import Derived.Test.YtkbmigfkclnlaaaGreatDoorV22
import Derived.Test.YtkbmigfkclnlaaaGreatDoorV18
set_option linter.all false
namespace Go.Proofs.YtkbmigfkclnlaaaGreatDoor
open Go.RowKit Go.Rx
attribute [local go_sem] Ext.cell Ext.frozen Ext.lt Ext.lt_add Ext.cell2 Ext.frozen2

def optN (t : ByteArray) : Option (List Nat) := if nats t = [] then none else some (nats t)

structure RG (s n t g : ByteArray) : Prop where
 text : nats s = nats n ++ (tagPart (optN t) ++ digPart (optN g))
 name : NameL (nats n)
 tag : nats t ≠ [] → Tag (nats t)
 dig : nats g ≠ [] → Dig (nats g)

theorem opt_nil : optN ByteArray.empty = none := by unfold optN; rw [nats_nil, if_pos rfl]
theorem opt_some {t : ByteArray} (h : nats t ≠ []) : optN t = some (nats t) := by unfold optN; rw [if_neg h]
theorem tag_ne {l : List Nat} (h : Tag l) : l ≠ [] := ((tag_iff l).1 h).2.1.1
theorem dig_ne {l : List Nat} (h : Dig l) : l ≠ [] := by
 obtain ⟨a, b, rfl, _, ⟨c, d, rfl, ⟨x, rfl, _⟩, _⟩⟩ := h
 simp

set_option maxRecDepth 100000 in
set_option maxHeartbeats 2000000 in
theorem groups_any (s : ByteArray) (w : World) (hs : s.size < 100000000000) :
  Calls Tryz.prog 18 #[.string s] w fun e w' => ∃ (n t g : ByteArray) (b : Bool), e = .returned (.tuple #[.string n, .string t, .string g, .bool b]) ∧ (b = true → RG s n t g) ∧ ∃ y : Ext w, w' = y.now := by
 have h1 := Lib.hid (first_lit s 64 64 rfl w hs)
 rcases firstF_split 64 (nats s) with ⟨hneg, hno⟩ | ⟨a, b, hr, hno, hlen⟩
 ·rw [hneg] at h1
  obtain ⟨r, hrs⟩ : ∃ r, r = s := ⟨_, rfl⟩
  have hrz : r.size < 100000000000 := by rw [hrs]; exact hs
  have hfin : ∀ n t, nats r = nats n ++ tagPart (optN t) → NameL (nats n) → (nats t ≠ [] → Tag (nats t)) → RG s n t ByteArray.empty := by
   intro n t g1 g2 g3
   subst hrs
   exact ⟨by rw [opt_nil, g1]; simp [digPart], g2, g3, fun h => absurd nats_nil h⟩
  have HFIN := Lib.hid hfin
  have HN := Lib.hid (fun W : World => isName_any r W hrz)
  clear hneg hno hfin
  subst hrs
  go_enter Tryz.func18, Tryz.ntmps18
  go_wp2_with (first | (go_at_call 7; (with_reducible refine h1.out.mono ?_); rintro e w1 ⟨rfl, rfl⟩) | (go_at_call 34; (with_reducible refine (HN.out _).mono ?_); rintro e w1 ⟨bn, rfl, hbn, y, rfl⟩))
  ·refine bodyPost_ret (v := .tuple #[.string r, .string ByteArray.empty, .string ByteArray.empty, .bool true]) (by simp [results, Tryz.results18, go_sem]; try rfl) rfl ⟨r, _, _, true, rfl, fun _ => ?_, y, rfl⟩
   exact HFIN.out r ByteArray.empty (by rw [opt_nil]; simp [tagPart]) (hbn (by first | rfl | assumption)) (fun h => absurd nats_nil h)
  ·have hbf : bn = false := by assumption
   subst hbf
   go_loopw [4, 7] (fun t4 t wr => ∃ k : Nat, t4 = .string ByteArray.empty ∧ t = .int .i64 k ∧ k ≤ r.size ∧ ∃ x : Ext w1, wr = x.now) (fun _ t _ => r.size - (intOf t).toNat)
   case atStart => exact ⟨0, rfl, rfl, Nat.zero_le _, y, rfl⟩
   case round =>
    obtain ⟨k, rfl, rfl, hks, x, rfl⟩ := hrel
    by_cases hlt : k < r.size
    ·have hlt' : (k : Int) < (r.size : Int) := by omega
     have p0 : (0 : Int) ≤ (k : Int) := by omega
     have p1 : (k : Int) ≤ (r.size : Int) := by omega
     have p2 : (k : Int) + 1 ≤ (r.size : Int) := by omega
     have p3 : (0 : Int) ≤ (k : Int) + 1 := by omega
     have p4 : ((k : Int) + 1).toNat = k + 1 := by omega
     have p5 : IntKind.i64.wrap ((k : Int) + 1) = (k : Int) + 1 := by rw [Go.IntWalk.i64_left]; exact Go.IntWalk.wrap64_in _ (by omega)
     by_cases hc : (nats r).getD k 0 = 58
     ·have g1 := at_u8 r k hlt 58 hc
      have hsp := at_split (by rw [nats_length]; exact hlt) hc
      rw [← nats_take, ← nats_drop] at hsp
      have HSP := Lib.hid hsp
      have C1 := Lib.hid (fun W : World => isTag_any (r.extract (k + 1) r.size) W (by rw [ByteArray.size_extract]; omega))
      have C2 := Lib.hid (fun W : World => isName_any (r.extract 0 k) W (by rw [ByteArray.size_extract]; omega))
      clear hsp hc
      go_wp2_with (first | (go_at_call 35; (with_reducible refine (C1.out _).mono ?_); rintro e w2 ⟨b1, rfl, hb1, y1, rfl⟩) | (go_at_call 34; (with_reducible refine (C2.out _).mono ?_); rintro e w2 ⟨b2, rfl, hb2, y2, rfl⟩))
      ·have HZ := Lib.hid (Ext.both x (y1.trans (y2.trans (Ext.drewn _))))
       go_region_with fail
       go_simp
       go_wp2_with fail
       refine bodyPost_ret (v := .tuple #[.string (r.extract 0 k), .string (r.extract (k + 1) r.size), .string ByteArray.empty, .bool true]) (by simp [results, Tryz.results18, go_sem]; try rfl) rfl ⟨_, _, _, true, rfl, fun _ => ?_, HZ.out⟩
       have ht := hb1 (by first | rfl | assumption)
       exact HFIN.out _ _ (by rw [opt_some (tag_ne ht)]; exact HSP.out) (hb2 (by first | rfl | assumption)) (fun _ => ht)
      ·exact ⟨⟨k + 1, rfl, by simp, by omega, Ext.both x (y1.trans y2)⟩, by simp [intOf]; omega⟩
      ·exact ⟨⟨k + 1, rfl, by simp, by omega, Ext.both x y1⟩, by simp [intOf]; omega⟩
     ·have g1 := at_ne r k hlt 58 hc
      clear hc
      go_wp2_with fail
      exact ⟨⟨k + 1, rfl, by simp, by omega, x, rfl⟩, by simp [intOf]; omega⟩
    ·have hkn : k = r.size := by omega
     subst hkn
     have hlt' : ¬ ((r.size : Int) < (r.size : Int)) := by omega
     go_wp2_with fail
     refine bodyPost_ret (v := .tuple #[.string ByteArray.empty, .string ByteArray.empty, .string ByteArray.empty, .bool false]) (by simp [results, Tryz.results18, go_sem]; try rfl) rfl ⟨_, _, _, .inl ⟨rfl, x, rfl⟩⟩
 ·have hl := nats_length s
  rw [hlen] at h1
  have hal : a.length < s.size := by
   rw [hr] at hl
   simp at hl
   omega
  have q0 : (0 : Int) ≤ ((a.length : Nat) : Int) := by omega
  have q2 : ((a.length : Nat) : Int) ≤ (s.size : Int) := by omega
  have q3 : ((a.length : Nat) : Int) + 1 ≤ (s.size : Int) := by omega
  have q4 : (0 : Int) ≤ ((a.length : Nat) : Int) + 1 := by omega
  have q5 : (((a.length : Nat) : Int) + 1).toNat = a.length + 1 := by omega
  have q6 : IntKind.i64.wrap (((a.length : Nat) : Int) + 1) = ((a.length : Nat) : Int) + 1 := by rw [Go.IntWalk.i64_left]; exact Go.IntWalk.wrap64_in _ (by omega)
  have na : nats (s.extract 0 a.length) = a := by rw [nats_take, hr]; simp
  have nb : nats (s.extract (a.length + 1) s.size) = b := by rw [nats_drop, hr, List.append_cons, List.drop_append_of_le_length (by simp)]; simp
  obtain ⟨r, hrd⟩ : ∃ r, r = s.extract 0 a.length := ⟨_, rfl⟩
  obtain ⟨g, hgd⟩ : ∃ g, g = s.extract (a.length + 1) s.size := ⟨_, rfl⟩
  have hrz : r.size < 100000000000 := by rw [hrd, ByteArray.size_extract]; omega
  have hgz : g.size < 100000000000 := by rw [hgd, ByteArray.size_extract]; omega
  have hfin : Dig (nats g) → ∀ n t, nats r = nats n ++ tagPart (optN t) → NameL (nats n) → (nats t ≠ [] → Tag (nats t)) → RG s n t g := by
   intro hd n t g1 g2 g3
   refine ⟨?_, g2, g3, fun _ => hd⟩
   rw [opt_some (dig_ne hd), ← List.append_assoc, ← g1, hrd, hgd, na, nb, hr]
   rfl
  have HF0 := Lib.hid hfin
  have HN := Lib.hid (fun W : World => isName_any r W hrz)
  have HD := Lib.hid (fun W : World => isDigest_any g W hgz)
  clear hno hfin na nb hlen hr hl
  go_enter Tryz.func18, Tryz.ntmps18
  go_wp2_with (first | (go_at_call 7; (with_reducible refine h1.out.mono ?_); rintro e w1 ⟨rfl, rfl⟩))
  go_region_with fail
  go_simp
  rw [← hrd, ← hgd]
  clear hrd hgd
  go_wp2_with (first | (go_at_call 33; (with_reducible refine (HD.out _).mono ?_); rintro e w1 ⟨bd, rfl, hbd, z, rfl⟩) | (go_at_call 34; (with_reducible refine (HN.out _).mono ?_); rintro e w1 ⟨bn, rfl, hbn, y, rfl⟩))
  ·refine bodyPost_ret (v := .tuple #[.string ByteArray.empty, .string ByteArray.empty, .string ByteArray.empty, .bool false]) (by simp [results, Tryz.results18, go_sem]; try rfl) rfl ⟨_, _, _, false, rfl, fun h => by simp at h, Ext.both (Ext.drewn _) z⟩
  ·have hbdt : bd = true := by cases bd with
    | true => rfl
    | false => simp_all
   subst hbdt
   have HFIN := Lib.hid (HF0.out (hbd rfl))
   refine bodyPost_ret (v := .tuple #[.string r, .string ByteArray.empty, .string g, .bool true]) (by simp [results, Tryz.results18, go_sem]; try rfl) rfl ⟨r, _, _, true, rfl, fun _ => ?_, Ext.both (Ext.drewn _) (z.trans y)⟩
   exact HFIN.out r ByteArray.empty (by rw [opt_nil]; simp [tagPart]) (hbn (by first | rfl | assumption)) (fun h => absurd nats_nil h)
  ·have hbdt : bd = true := by cases bd with
    | true => rfl
    | false => simp_all
   subst hbdt
   have HFIN := Lib.hid (HF0.out (hbd rfl))
   have hbf : bn = false := by assumption
   subst hbf
   go_loopw [4, 7] (fun t4 t wr => ∃ k : Nat, t4 = .string g ∧ t = .int .i64 k ∧ k ≤ r.size ∧ ∃ x : Ext w1, wr = x.now) (fun _ t _ => r.size - (intOf t).toNat)
   case atStart => exact ⟨0, rfl, rfl, Nat.zero_le _, Ext.both (Ext.drewn _) (z.trans y)⟩
   case round =>
    obtain ⟨k, rfl, rfl, hks, x, rfl⟩ := hrel
    by_cases hlt : k < r.size
    ·have hlt' : (k : Int) < (r.size : Int) := by omega
     have p0 : (0 : Int) ≤ (k : Int) := by omega
     have p1 : (k : Int) ≤ (r.size : Int) := by omega
     have p2 : (k : Int) + 1 ≤ (r.size : Int) := by omega
     have p3 : (0 : Int) ≤ (k : Int) + 1 := by omega
     have p4 : ((k : Int) + 1).toNat = k + 1 := by omega
     have p5 : IntKind.i64.wrap ((k : Int) + 1) = (k : Int) + 1 := by rw [Go.IntWalk.i64_left]; exact Go.IntWalk.wrap64_in _ (by omega)
     by_cases hc : (nats r).getD k 0 = 58
     ·have g1 := at_u8 r k hlt 58 hc
      have hsp := at_split (by rw [nats_length]; exact hlt) hc
      rw [← nats_take, ← nats_drop] at hsp
      have HSP := Lib.hid hsp
      have C1 := Lib.hid (fun W : World => isTag_any (r.extract (k + 1) r.size) W (by rw [ByteArray.size_extract]; omega))
      have C2 := Lib.hid (fun W : World => isName_any (r.extract 0 k) W (by rw [ByteArray.size_extract]; omega))
      clear hsp hc
      go_wp2_with (first | (go_at_call 35; (with_reducible refine (C1.out _).mono ?_); rintro e w2 ⟨b1, rfl, hb1, y1, rfl⟩) | (go_at_call 34; (with_reducible refine (C2.out _).mono ?_); rintro e w2 ⟨b2, rfl, hb2, y2, rfl⟩))
      ·have HZ := Lib.hid (Ext.both x (y1.trans (y2.trans (Ext.drewn _))))
       go_region_with fail
       go_simp
       go_wp2_with fail
       refine bodyPost_ret (v := .tuple #[.string (r.extract 0 k), .string (r.extract (k + 1) r.size), .string g, .bool true]) (by simp [results, Tryz.results18, go_sem]; try rfl) rfl ⟨_, _, _, true, rfl, fun _ => ?_, HZ.out⟩
       have ht := hb1 (by first | rfl | assumption)
       exact HFIN.out _ _ (by rw [opt_some (tag_ne ht)]; exact HSP.out) (hb2 (by first | rfl | assumption)) (fun _ => ht)
      ·exact ⟨⟨k + 1, rfl, by simp, by omega, Ext.both x (y1.trans y2)⟩, by simp [intOf]; omega⟩
      ·exact ⟨⟨k + 1, rfl, by simp, by omega, Ext.both x y1⟩, by simp [intOf]; omega⟩
     ·have g1 := at_ne r k hlt 58 hc
      clear hc
      go_wp2_with fail
      exact ⟨⟨k + 1, rfl, by simp, by omega, x, rfl⟩, by simp [intOf]; omega⟩
    ·have hkn : k = r.size := by omega
     subst hkn
     have hlt' : ¬ ((r.size : Int) < (r.size : Int)) := by omega
     go_wp2_with fail
     refine bodyPost_ret (v := .tuple #[.string ByteArray.empty, .string ByteArray.empty, .string ByteArray.empty, .bool false]) (by simp [results, Tryz.results18, go_sem]; try rfl) rfl ⟨_, _, _, .inl ⟨rfl, x, rfl⟩⟩

end Go.Proofs.YtkbmigfkclnlaaaGreatDoor
namespace Go.Proofs.YtkbmigfkclnlaaaGreatDoor
open Go.RowKit Go.Rx
attribute [local go_sem] Ext.cell Ext.frozen Ext.lt Ext.lt_add Ext.cell2 Ext.frozen2

def byteVals (l : List UInt8) : List Value := l.map fun b => .int .u8 ((b.toNat : Nat) : Int)

theorem byteVals_set (l : List UInt8) (k : Nat) (b : UInt8) : (byteVals l).set k (.int .u8 ((b.toNat : Nat) : Int)) = byteVals (l.set k b) := by
 unfold byteVals
 rw [List.map_set]

theorem byte_info : (Tryz.prog.info? 5).map (fun i => (i.zero, i.size, i.bytes)) = some (some (.int .u8 0), 1, 1) := by kernel_rfl

theorem made_bytes (n : Nat) : List.replicate n (Value.int .u8 0) = byteVals (List.replicate n 0) := by
 unfold byteVals
 rw [List.map_replicate]
 rfl

def lowc (x : Nat) : Nat := if 65 ≤ x ∧ x ≤ 90 then x + 32 else x

theorem set_low {l : List UInt8} {v : List Nat} {k : Nat} (hk : k < l.length) (b : UInt8) (h : ∀ j, j < k → (l.getD j 0).toNat = lowc (v.getD j 0)) (hb : b.toNat = lowc (v.getD k 0)) :
  ∀ j, j < k + 1 → ((l.set k b).getD j 0).toNat = lowc (v.getD j 0) := by
 intro j hj
 by_cases e : j = k
 ·subst e
  rw [List.getD_eq_getElem?_getD, List.getElem?_set_self hk]
  simpa using hb
 ·rw [List.getD_eq_getElem?_getD, List.getElem?_set_ne (Ne.symm e), ← List.getD_eq_getElem?_getD]
  exact h j (by omega)

theorem low_whole {l : List UInt8} {v : List Nat} (hl : l.length = v.length) (h : ∀ j, j < v.length → (l.getD j 0).toNat = lowc (v.getD j 0)) : l.map UInt8.toNat = v.map lowc := by
 refine List.ext_getElem (by simp [hl]) fun i h1 h2 => ?_
 have h1' : i < l.length := by simpa using h1
 have h2' : i < v.length := by simpa using h2
 have := h i h2'
 rw [List.getD_eq_getElem?_getD, List.getD_eq_getElem?_getD, List.getElem?_eq_getElem h1', List.getElem?_eq_getElem h2'] at this
 simpa using this

set_option maxRecDepth 100000 in
set_option maxHeartbeats 2000000 in
theorem small_val (s : ByteArray) (w : World) (hs : s.size < 100000000000) :
  Calls Tryz.prog 13 #[.string s] w fun e w' => ∃ t : ByteArray, e = .returned (.string t) ∧ nats t = (nats s).map lowc ∧ ∃ y : Ext w, w' = y.now := by
 go_enter Tryz.func13, Tryz.ntmps13
 go_wp2_with (at_make; refine make_blk _ rfl (.tmp 6) (.tmp 6) 47 5 rfl _ 1 1 (by kernel_rfl) byte_info .i64 .i64 s.size s.size rfl rfl (Nat.le_refl _) (by omega) (by omega) _ rfl ?_)
 intro w1 b1 c1 z1
 rw [made_one, made_bytes] at b1
 obtain ⟨G, hG⟩ : ∃ G, w.heap.size = G := ⟨_, rfl⟩
 rw [hG] at b1 z1 ⊢
 have C1 := Lib.hid c1
 have B1 := Lib.hid b1
 clear b1 c1
 go_wp2_with fail
 go_loopw [10] (fun t wr => ∃ (k : Nat) (l : List UInt8), t = .int .i64 k ∧ k ≤ s.size ∧ l.length = s.size ∧ Blk wr G (byteVals l) 5 ∧ Chg [G] w1 wr ∧ ∀ j, j < k → (l.getD j 0).toNat = lowc ((nats s).getD j 0)) (fun t _ => s.size - (intOf t).toNat)
 case atStart => exact ⟨0, _, rfl, Nat.zero_le _, by simp, B1.out, (Chg.refl w1).mono (fun _ h => by cases h), fun j hj => absurd hj (by omega)⟩
 case round =>
  obtain ⟨k, l, rfl, hks, hll, hb, hc, hlow⟩ := hrel
  by_cases hlt : k < s.size
  ·have hlt' : (k : Int) < (s.size : Int) := by omega
   have p0 : (0 : Int) ≤ (k : Int) := by omega
   have d1 : wr.cell? ⟨G, k, none⟩ = some (.int .u8 ((l[k]'(by omega)).toNat : Nat)) := by
    rw [hb.cell]
    unfold byteVals
    rw [List.getElem?_map, List.getElem?_eq_getElem (by omega)]
    rfl
   have f1 := hb.free k
   have gl := hb.lt
   have HB := Lib.hid hb
   have HC := Lib.hid hc
   have hat := nats_at s k hlt
   have HL := Lib.hid (fun (b : UInt8) hb => set_low (v := nats s) (by omega : k < l.length) b hlow hb)
   have HA := Lib.hid hat
   clear hb hc hlow hat
   by_cases ha : 65 ≤ (s[k]'hlt).toNat
   ·have ha' : (65 : Int) ≤ (((s[k]'hlt).toNat : Nat) : Int) := by omega
    by_cases hz : (s[k]'hlt).toNat ≤ 90
    ·have hz' : (((s[k]'hlt).toNat : Nat) : Int) ≤ 90 := by omega
     have hw : (((s[k]'hlt).toNat : Nat) : Int) + 32 = (((s[k]'hlt + 32).toNat : Nat) : Int) := by
      rw [UInt8.toNat_add]
      have : (32 : UInt8).toNat = 32 := rfl
      rw [this, Nat.mod_eq_of_lt (by omega)]
      omega
     have HW := Lib.hid hw
     clear hw
     go_wp2_with fail
     rw [HW.out]
     refine ⟨⟨k + 1, (l.set k (s[k]'hlt)).set k (s[k]'hlt + 32), by simp, by omega, by simp [hll], ?_, ?_, ?_⟩, by simp [intOf]; omega⟩
     ·rw [← byteVals_set, ← byteVals_set]
      exact (HB.out.set k _).set k _
     ·exact ((HC.out.trans (Chg.set _ G k _)).trans (Chg.set _ G k _)).mono (fun b h _ => by simpa using h)
     ·rw [List.set_set]
      refine HL.out _ ?_
      rw [HA.out]
      unfold lowc
      rw [if_pos ⟨ha, hz⟩]
      have := HW.out
      omega
    ·have hz' : ¬ (((s[k]'hlt).toNat : Nat) : Int) ≤ 90 := by omega
     go_wp2_with fail
     refine ⟨⟨k + 1, l.set k (s[k]'hlt), by simp, by omega, by simp [hll], ?_, ?_, ?_⟩, by simp [intOf]; omega⟩
     ·rw [← byteVals_set]
      exact HB.out.set k _
     ·exact (HC.out.trans (Chg.set _ G k _)).mono (fun b h _ => by simpa using h)
     ·refine HL.out _ ?_
      rw [HA.out]
      unfold lowc
      rw [if_neg (fun h => hz h.2)]
   ·have ha' : ¬ (65 : Int) ≤ (((s[k]'hlt).toNat : Nat) : Int) := by omega
    go_wp2_with fail
    refine ⟨⟨k + 1, l.set k (s[k]'hlt), by simp, by omega, by simp [hll], ?_, ?_, ?_⟩, by simp [intOf]; omega⟩
    ·rw [← byteVals_set]
     exact HB.out.set k _
    ·exact (HC.out.trans (Chg.set _ G k _)).mono (fun b h _ => by simpa using h)
    ·refine HL.out _ ?_
     rw [HA.out]
     unfold lowc
     rw [if_neg (fun h => ha h.1)]
  ·have hkn : k = s.size := by omega
   subst hkn
   have hlt' : ¬ ((s.size : Int) < (s.size : Int)) := by omega
   have hcv : ∀ W : World, W = wr → (convert 47 9 (.slice (some ⟨G, 0, none⟩) s.size s.size)).run Tryz.prog W = .ok (.string ⟨l.toArray⟩) W := by
    rintro W rfl
    rw [← hll]
    refine run_convert_bytes_back W 47 9 5 ⟨G, 0, none⟩ l.length l (by kernel_rfl) (by kernel_rfl) (by kernel_rfl) fun j hj => ?_
    have := hb.cell j
    unfold byteVals at this
    rw [List.getElem?_map, List.getElem?_eq_getElem hj] at this
    by_cases h0 : j = 0
    ·subst h0; simpa [Addr.add] using this
    ·simpa [Addr.add, h0] using this
   have hcv' := hcv wr rfl
   have HB := Lib.hid hb
   have HC := Lib.hid hc
   have HL := Lib.hid (low_whole (by rw [hll, nats_length]) (fun j hj => hlow j (by rw [nats_length] at hj; exact hj)))
   clear hb hc hcv hll hlow
   go_wp2_with fail
   go_ret
   refine ⟨_, rfl, HL.out, Ext.of ((C1.out.trans HC.out).below (Nat.le_refl _) (fun b hb => by simp at hb; omega))⟩

theorem small_any (s : ByteArray) (w : World) (hs : s.size < 100000000000) :
  Calls Tryz.prog 13 #[.string s] w fun e w' => ∃ t : ByteArray, e = .returned (.string t) ∧ t.size = s.size ∧ ∃ y : Ext w, w' = y.now :=
 (small_val s w hs).mono fun _ _ ⟨t, h1, h2, h3⟩ => ⟨t, h1, by have := congrArg List.length h2; rwa [nats_length, List.length_map, nats_length] at this, h3⟩

end Go.Proofs.YtkbmigfkclnlaaaGreatDoor
namespace Go.Proofs.YtkbmigfkclnlaaaGreatDoor
open Go.RowKit Go.Rx
attribute [local go_sem] Ext.cell Ext.frozen Ext.lt Ext.lt_add Ext.cell2 Ext.frozen2

set_option maxRecDepth 100000 in
theorem wrong_any (s : ByteArray) (w : World) (hs : s.size < 100000000000) :
  Calls Tryz.prog 19 #[.string s] w fun e w' => ∃ n : Int, e = .returned (.int .i64 n) ∧ n ≠ 0 ∧ ∃ y : Ext w, w' = y.now := by
 have H1 := Lib.hid (small_any s w hs)
 by_cases hz : nats s = []
 ·have e : s.toList.isEmpty = true := by rw [empty_nats, decide_eq_true hz]
  clear hz
  go_enter Tryz.func19, Tryz.ntmps19
  go_wp2_with fail
  go_ret
  exact ⟨5, rfl, by omega, Ext.here _⟩
 ·have e : s.toList.isEmpty = false := by rw [empty_nats, decide_eq_false hz]
  clear hz
  go_enter Tryz.func19, Tryz.ntmps19
  go_wp2_with (first | (go_at_call 13; (with_reducible refine H1.out.mono ?_); rintro e w1 ⟨t, rfl, ht, y, rfl⟩) | (go_at_call 18; (with_reducible refine (groups_any t _ (by omega)).mono ?_); rintro e w1 ⟨n, tg, g, b, rfl, _, z, rfl⟩))
  ·go_ret
   exact ⟨4, rfl, by omega, Ext.both y z⟩
  ·go_ret
   exact ⟨1, rfl, by omega, Ext.both y z⟩

def dsize (l : List Nat) : Nat := if l = [115, 104, 97, 50, 53, 54] then 32 else if l = [115, 104, 97, 51, 56, 52] then 48 else if l = [115, 104, 97, 53, 49, 50] then 64 else 0

set_option maxRecDepth 100000 in
theorem dsize_any (s : ByteArray) (w : World) : Calls Tryz.prog 38 #[.string s] w fun e w' => e = .returned (.int .i64 (dsize (nats s) : Nat)) ∧ w' = w := by
 unfold dsize
 by_cases h1 : nats s = [115, 104, 97, 50, 53, 54]
 ·have e1 := is_text s [115, 104, 97, 50, 53, 54] h1
  rw [if_pos h1]
  clear h1
  go_enter Tryz.func38, Tryz.ntmps38
  go_wp2
  go_ret
  exact ⟨rfl, rfl⟩
 have e1 := not_text s [115, 104, 97, 50, 53, 54] h1
 rw [if_neg h1]
 clear h1
 by_cases h2 : nats s = [115, 104, 97, 51, 56, 52]
 ·have e2 := is_text s [115, 104, 97, 51, 56, 52] h2
  rw [if_pos h2]
  clear h2
  go_enter Tryz.func38, Tryz.ntmps38
  go_wp2
  go_ret
  exact ⟨rfl, rfl⟩
 have e2 := not_text s [115, 104, 97, 51, 56, 52] h2
 rw [if_neg h2]
 clear h2
 by_cases h3 : nats s = [115, 104, 97, 53, 49, 50]
 ·have e3 := is_text s [115, 104, 97, 53, 49, 50] h3
  rw [if_pos h3]
  clear h3
  go_enter Tryz.func38, Tryz.ntmps38
  go_wp2
  go_ret
  exact ⟨rfl, rfl⟩
 have e3 := not_text s [115, 104, 97, 53, 49, 50] h3
 rw [if_neg h3]
 clear h3
 go_enter Tryz.func38, Tryz.ntmps38
 go_wp2
 go_ret
 exact ⟨rfl, rfl⟩

set_option maxRecDepth 100000 in
theorem fits_dig (a h : ByteArray) (w : World) (hs : h.size < 100000000000) :
  Calls Tryz.prog 40 #[.string a, .string h] w fun e w' => ∃ n : Int, e = .returned (.int .i64 n) ∧ (n = 0 → dsize (nats a) ≠ 0 ∧ h.size = 2 * dsize (nats a) ∧ allF shx (nats h) = true) ∧ ∃ y : Ext w, w' = y.now := by
 have H1 := Lib.hid (dsize_any a w)
 obtain ⟨b, hb⟩ : ∃ b, b = allF shx (nats h) := ⟨_, rfl⟩
 have h2 := all_any enters_shx kind_shx h w hs
 rw [← hb] at h2 ⊢
 have H2 := Lib.hid h2
 have hd : dsize (nats a) ≤ 64 := by
  unfold dsize
  split
  ·omega
  ·split
   ·omega
   ·split <;> omega
 obtain ⟨d, hdd⟩ : ∃ d, d = dsize (nats a) := ⟨_, rfl⟩
 rw [← hdd] at H1 hd ⊢
 clear h2 hdd hb
 by_cases hz : d = 0
 ·subst hz
  go_enter Tryz.func40, Tryz.ntmps40
  go_wp2_with (first | (go_at_call 38; (with_reducible refine H1.out.mono ?_); rintro e w1 ⟨rfl, rfl⟩))
  go_ret
  exact ⟨8, rfl, fun h => by omega, Ext.here _⟩
 ·have hz' : ((d : Int) == 0) = false := beq_eq_false_iff_ne.2 (by omega)
  by_cases hl : h.size = 2 * d
  ·have hl' : ((h.size : Int) != 2 * (d : Int)) = false := by simp [bne]; omega
   have hl2 : (h.size : Int) = 2 * (d : Int) := by omega
   cases b with
   | true =>
    go_enter Tryz.func40, Tryz.ntmps40
    go_wp2_with (first | (go_at_call 38; (with_reducible refine H1.out.mono ?_); rintro e w1 ⟨rfl, rfl⟩) | (go_at_call 54; (with_reducible refine H2.out.mono ?_); rintro e w1 ⟨rfl, y, rfl⟩))
    go_ret
    exact ⟨0, rfl, fun _ => ⟨hz, hl, trivial⟩, y, rfl⟩
   | false =>
    go_enter Tryz.func40, Tryz.ntmps40
    go_wp2_with (first | (go_at_call 38; (with_reducible refine H1.out.mono ?_); rintro e w1 ⟨rfl, rfl⟩) | (go_at_call 54; (with_reducible refine H2.out.mono ?_); rintro e w1 ⟨rfl, y, rfl⟩))
    go_ret
    exact ⟨3, rfl, fun h => by omega, y, rfl⟩
  ·have hl2 : ¬ (h.size : Int) = 2 * (d : Int) := by omega
   go_enter Tryz.func40, Tryz.ntmps40
   go_wp2_with (first | (go_at_call 38; (with_reducible refine H1.out.mono ?_); rintro e w1 ⟨rfl, rfl⟩))
   go_ret
   exact ⟨9, rfl, fun h => by omega, Ext.here _⟩

set_option maxRecDepth 100000 in
set_option maxHeartbeats 2000000 in
theorem form_any (s : ByteArray) (w : World) (hs : s.size < 100000000000) :
  Calls Tryz.prog 39 #[.string s] w fun e w' => ∃ b : Bool, e = .returned (.bool b) ∧ ∃ y : Ext w, w' = y.now := by
 have h1 := Lib.hid (first_lit s 58 58 rfl w hs)
 rcases firstF_split 58 (nats s) with ⟨hneg, hno⟩ | ⟨a, b, hr, hno, hlen⟩
 ·rw [hneg] at h1
  clear hno hneg
  go_enter Tryz.func39, Tryz.ntmps39
  go_wp2_with (first | (go_at_call 7; (with_reducible refine h1.out.mono ?_); rintro e w1 ⟨rfl, rfl⟩))
  go_ret
  exact ⟨false, rfl, Ext.here _⟩
 ·have hl := nats_length s
  rw [hlen] at h1
  have hal : a.length < s.size := by
   rw [hr] at hl
   simp at hl
   omega
  have q0 : decide (((a.length : Nat) : Int) < 0) = false := decide_eq_false (by omega)
  have q2 : ((a.length : Nat) : Int) ≤ (s.size : Int) := by omega
  have q3 : ((a.length : Nat) : Int) + 1 ≤ (s.size : Int) := by omega
  have q4 : (0 : Int) ≤ ((a.length : Nat) : Int) + 1 := by omega
  have q5 : (((a.length : Nat) : Int) + 1).toNat = a.length + 1 := by omega
  have c2 := fun W : World => all_any enters_dfx kind_dfx (s.extract (a.length + 1) s.size) W (by rw [ByteArray.size_extract]; omega)
  obtain ⟨b2, hb2⟩ : ∃ b2, b2 = allF dfx (nats (s.extract (a.length + 1) s.size)) := ⟨_, rfl⟩
  rw [← hb2] at c2
  have C2 := Lib.hid c2
  clear hno hlen hr hl hb2 c2
  cases b2 with
  | false =>
   go_enter Tryz.func39, Tryz.ntmps39
   go_wp2_with (first | (go_at_call 7; (with_reducible refine h1.out.mono ?_); rintro e w1 ⟨rfl, rfl⟩) | (go_at_call 54; (with_reducible refine (C2.out _).mono ?_); rintro e w1 ⟨rfl, y, rfl⟩))
   go_ret
   exact ⟨false, rfl, y, rfl⟩
  | true =>
   go_enter Tryz.func39, Tryz.ntmps39
   go_wp2_with (first | (go_at_call 7; (with_reducible refine h1.out.mono ?_); rintro e w1 ⟨rfl, rfl⟩) | (go_at_call 54; (with_reducible refine (C2.out _).mono ?_); rintro e w1 ⟨rfl, y, rfl⟩))
   go_loopw [4, 5] (fun t3 t4 wr => ∃ (q : Bool) (k : Nat), t3 = .bool q ∧ t4 = .int .i64 k ∧ k ≤ a.length ∧ ∃ x : Ext w1, wr = x.now) (fun _ t _ => a.length - (intOf t).toNat)
   case atStart => exact ⟨true, 0, rfl, rfl, Nat.zero_le _, y, rfl⟩
   case round =>
    obtain ⟨q, k, rfl, rfl, hks, x, rfl⟩ := hrel
    by_cases hlt : k < a.length
    ·have hlt' : (k : Int) < ((a.length : Nat) : Int) := by omega
     have h0 : (0 : Int) ≤ (k : Int) := by omega
     have hks2 : k < s.size := by omega
     have hks' : (k : Int) < (s.size : Int) := by omega
     obtain ⟨c, hc⟩ : ∃ c, c = (s[k]'hks2).toNat := ⟨_, rfl⟩
     have hcu : (((s[k]'hks2).toNat : Nat) : Int) = (c : Int) := by rw [hc]
     have c3 := fun W : World => kind_lower c W
     obtain ⟨p, hp⟩ : ∃ p, p = low c := ⟨_, rfl⟩
     rw [← hp] at c3
     have C3 := Lib.hid c3
     clear c3 hp hc
     cases p with
     | true =>
      go_wp2_with (first | (go_at_call 64; (with_reducible refine (C3.out _).mono ?_); rintro e w2 ⟨rfl, z, rfl⟩))
      exact ⟨⟨false, k + 1, rfl, by simp, by omega, Ext.both x z⟩, by simp [intOf]; omega⟩
     | false =>
      cases q with
      | true =>
       go_wp2_with (first | (go_at_call 64; (with_reducible refine (C3.out _).mono ?_); rintro e w2 ⟨rfl, z, rfl⟩))
       go_ret
       exact ⟨false, rfl, Ext.both x z⟩
      | false =>
       by_cases e1 : ((c : Int) != 43) = true
       ·by_cases e2 : ((c : Int) != 46) = true
        ·by_cases e3 : ((c : Int) != 45) = true
         ·by_cases e4 : ((c : Int) != 95) = true
          ·go_wp2_with (first | (go_at_call 64; (with_reducible refine (C3.out _).mono ?_); rintro e w2 ⟨rfl, z, rfl⟩))
           go_ret
           exact ⟨false, rfl, Ext.both x z⟩
          ·have e4' : ((c : Int) != 95) = false := by simpa using e4
           clear e4
           go_wp2_with (first | (go_at_call 64; (with_reducible refine (C3.out _).mono ?_); rintro e w2 ⟨rfl, z, rfl⟩))
           exact ⟨⟨true, k + 1, rfl, by simp, by omega, Ext.both x z⟩, by simp [intOf]; omega⟩
         ·have e3' : ((c : Int) != 45) = false := by simpa using e3
          clear e3
          go_wp2_with (first | (go_at_call 64; (with_reducible refine (C3.out _).mono ?_); rintro e w2 ⟨rfl, z, rfl⟩))
          exact ⟨⟨true, k + 1, rfl, by simp, by omega, Ext.both x z⟩, by simp [intOf]; omega⟩
        ·have e2' : ((c : Int) != 46) = false := by simpa using e2
         clear e2
         go_wp2_with (first | (go_at_call 64; (with_reducible refine (C3.out _).mono ?_); rintro e w2 ⟨rfl, z, rfl⟩))
         exact ⟨⟨true, k + 1, rfl, by simp, by omega, Ext.both x z⟩, by simp [intOf]; omega⟩
       ·have e1' : ((c : Int) != 43) = false := by simpa using e1
        clear e1
        go_wp2_with (first | (go_at_call 64; (with_reducible refine (C3.out _).mono ?_); rintro e w2 ⟨rfl, z, rfl⟩))
        exact ⟨⟨true, k + 1, rfl, by simp, by omega, Ext.both x z⟩, by simp [intOf]; omega⟩
    ·have hkn : k = a.length := by omega
     subst hkn
     have hlt' : ¬ (((a.length : Nat) : Int) < ((a.length : Nat) : Int)) := by omega
     go_wp2_with fail
     go_ret
     refine ⟨?_, x, rfl⟩
     cases q
     ·exact .inr rfl
     ·exact .inl rfl

structure DG (s : ByteArray) (k : Nat) : Prop where
 lt : k < s.size
 sep : nats s = (nats s).take k ++ 58 :: (nats s).drop (k + 1)
 no : 58 ∉ (nats s).take k
 alg : dsize ((nats s).take k) ≠ 0
 len : s.size = k + 1 + 2 * dsize ((nats s).take k)
 hex : allF shx ((nats s).drop (k + 1)) = true

set_option maxRecDepth 100000 in
set_option maxHeartbeats 2000000 in
theorem check_any (s : ByteArray) (w : World) (hs : s.size < 100000000000) :
  Calls Tryz.prog 21 #[.string s] w fun e w' => ∃ n : Int, e = .returned (.int .i64 n) ∧ (n = 0 → ∃ k, DG s k) ∧ ∃ y : Ext w, w' = y.now := by
 have h1 := Lib.hid (first_lit s 58 58 rfl w hs)
 have hl := nats_length s
 rcases firstF_split 58 (nats s) with ⟨hneg, hno⟩ | ⟨a, b, hr, hno, hlen⟩
 ·rw [hneg] at h1
  clear hno hneg
  go_enter Tryz.func21, Tryz.ntmps21
  go_wp2_with (first | (go_at_call 7; (with_reducible refine h1.out.mono ?_); rintro e w1 ⟨rfl, rfl⟩))
  go_ret
  exact ⟨3, rfl, fun h => by omega, Ext.here _⟩
 ·rw [hlen] at h1
  have hal : a.length < s.size := by
   rw [hr] at hl
   simp at hl
   omega
  obtain ⟨k, hk⟩ : ∃ k, k = a.length := ⟨_, rfl⟩
  rw [← hk] at h1 hal
  by_cases hk0 : k < 1
  ·have q0 : (k : Int) < 1 := by omega
   clear hno hlen hr hl hk
   go_enter Tryz.func21, Tryz.ntmps21
   go_wp2_with (first | (go_at_call 7; (with_reducible refine h1.out.mono ?_); rintro e w1 ⟨rfl, rfl⟩))
   go_ret
   exact ⟨3, rfl, fun h => by omega, Ext.here _⟩
  ·have q0 : decide ((k : Int) < 1) = false := decide_eq_false (by omega)
   have q7 : (0 : Int) ≤ (k : Int) := by omega
   by_cases hk1 : k + 1 = s.size
   ·have q1 : (k : Int) + 1 = (s.size : Int) := by omega
    clear hno hlen hr hl hk
    go_enter Tryz.func21, Tryz.ntmps21
    go_wp2_with (first | (go_at_call 7; (with_reducible refine h1.out.mono ?_); rintro e w1 ⟨rfl, rfl⟩))
    go_ret
    exact ⟨3, rfl, fun h => by omega, Ext.here _⟩
   ·have q1 : ((k : Int) + 1 == (s.size : Int)) = false := beq_eq_false_iff_ne.2 (by omega)
    have q2 : (k : Int) ≤ (s.size : Int) := by omega
    have q3 : (k : Int) + 1 ≤ (s.size : Int) := by omega
    have q4 : (0 : Int) ≤ (k : Int) + 1 := by omega
    have q5 : ((k : Int) + 1).toNat = k + 1 := by omega
    have q6 : IntKind.i64.wrap ((k : Int) + 1) = (k : Int) + 1 := by rw [Go.IntWalk.i64_left]; exact Go.IntWalk.wrap64_in _ (by omega)
    have ha : (nats s).take k = a := by rw [hr, hk]; simp
    have hb : (nats s).drop (k + 1) = b := by rw [hr, hk, List.append_cons, List.drop_append_of_le_length (by simp)]; simp
    have hz : (s.extract (k + 1) s.size).size = s.size - (k + 1) := by rw [ByteArray.size_extract]; omega
    have c1 := fun W : World => dsize_any (s.extract 0 k) W
    have c2 := fun W : World => form_any s W hs
    have c3 := fun W : World => fits_dig (s.extract 0 k) (s.extract (k + 1) s.size) W (by rw [hz]; omega)
    rw [nats_take] at c1
    rw [nats_take, nats_drop, hz] at c3
    have hfin : dsize ((nats s).take k) ≠ 0 ∧ s.size - (k + 1) = 2 * dsize ((nats s).take k) ∧ allF shx ((nats s).drop (k + 1)) = true → ∃ k, DG s k := by
     rintro ⟨g1, g2, g3⟩
     exact ⟨k, hal, by rw [ha, hb, hr], by rw [ha]; exact hno, g1, by omega, g3⟩
    obtain ⟨d, hd⟩ : ∃ d, d = dsize ((nats s).take k) := ⟨_, rfl⟩
    rw [← hd] at c1
    have C1 := Lib.hid c1
    have C2 := Lib.hid c2
    have C3 := Lib.hid c3
    have HF := Lib.hid hfin
    clear c1 c2 c3 hfin hno hlen hr hl hk ha hb hd hz
    by_cases hd0 : d = 0
    ·have hd1 : ((d : Int) == 0) = true := by rw [hd0]; rfl
     clear hd0
     go_enter Tryz.func21, Tryz.ntmps21
     go_wp2_with (first | (go_at_call 7; (with_reducible refine h1.out.mono ?_); rintro e w1 ⟨rfl, rfl⟩) | (go_at_call 38; (with_reducible refine (C1.out _).mono ?_); rintro e w2 ⟨rfl, rfl⟩) | (go_at_call 39; (with_reducible refine (C2.out _).mono ?_); rintro e w3 ⟨bf, rfl, y, rfl⟩))
     ·go_ret
      exact ⟨3, rfl, fun h => by omega, y, rfl⟩
     ·go_region_with (go_at_call 40; (with_reducible refine (C3.out _).mono ?_); rintro e w3 ⟨n, rfl, hn, z, rfl⟩)
      go_simp
      go_wp2_with fail
      go_ret
      exact ⟨n, rfl, fun h => HF.out (hn h), Ext.both y ((Ext.drewn _).trans z)⟩
    ·have hd1 : ((d : Int) == 0) = false := beq_eq_false_iff_ne.2 (by omega)
     clear hd0
     go_enter Tryz.func21, Tryz.ntmps21
     go_wp2_with (first | (go_at_call 7; (with_reducible refine h1.out.mono ?_); rintro e w1 ⟨rfl, rfl⟩) | (go_at_call 38; (with_reducible refine (C1.out _).mono ?_); rintro e w2 ⟨rfl, rfl⟩))
     go_region_with (go_at_call 40; (with_reducible refine (C3.out _).mono ?_); rintro e w3 ⟨n, rfl, hn, y, rfl⟩)
     go_simp
     go_wp2_with fail
     go_ret
     exact ⟨n, rfl, fun h => HF.out (hn h), Ext.both (Ext.drewn _) y⟩

end Go.Proofs.YtkbmigfkclnlaaaGreatDoor
namespace Go.Proofs.YtkbmigfkclnlaaaGreatDoor
open Go.RowKit Go.Rx
attribute [local go_sem] Ext.cell Ext.frozen Ext.lt Ext.lt_add Ext.cell2 Ext.frozen2

structure PG (s d p t g : ByteArray) : Prop where
 grp : ∃ n, RG s n t g ∧ NG n d p
 few : p.size ≤ 255
 dig : nats g ≠ [] → ∃ k, DG g k

theorem RG.size {s n t g : ByteArray} (h : RG s n t g) : n.size ≤ s.size ∧ g.size ≤ s.size := by
 have h1 := congrArg List.length h.text
 rw [nats_length, List.length_append, List.length_append, nats_length] at h1
 refine ⟨by omega, ?_⟩
 by_cases hg : nats g = []
 ·rw [← nats_length g, hg]; simp
 ·rw [opt_some hg] at h1
  simp [digPart] at h1
  rw [nats_length] at h1
  omega

theorem res_parse {W : World} {H : Nat} {d p t g : ByteArray} {n : Int} {tmps : Array Value} (h2 : tmps.getD 2 undef = .pointer (some ⟨H, 0, none⟩)) (h3 : tmps.getD 3 undef = .int .i64 n)
  (c0 : W.cell? ⟨H, 0, none⟩ = some (.string d)) (c1 : W.cell? ⟨H, 1, none⟩ = some (.string p)) (c2 : W.cell? ⟨H, 2, none⟩ = some (.string t)) (c3 : W.cell? ⟨H, 3, none⟩ = some (.string g)) :
  (results Tryz.f11 tmps).run Tryz.prog W = .ok (.tuple #[rv d p t g, .int .i64 n]) W := by
 have h2' : tmps[2]?.getD undef = .pointer (some ⟨H, 0, none⟩) := by rw [← h2]; simp
 have h3' : tmps[3]?.getD undef = .int .i64 n := by rw [← h3]; simp
 simp [results, Tryz.results11, go_sem, h2', h3', c0, c1, c2, c3, rv, loadCellsFrom, Addr.add]

theorem ret_parse {w : World} (X : Ext (w.alloc (Obj.cells #[Value.string ⟨#[]⟩, Value.string ⟨#[]⟩, Value.string ⟨#[]⟩, Value.string ⟨#[]⟩] 23))) (d p t g : ByteArray) (n : Int) (tmps : Array Value)
  (h2 : tmps.getD 2 undef = .pointer (some ⟨w.heap.size, 0, none⟩)) (h3 : tmps.getD 3 undef = .int .i64 n) :
  (results Tryz.f11 tmps).run Tryz.prog ((((X.now.setCell ⟨w.heap.size, 0, none⟩ (.string d)).setCell ⟨w.heap.size, 1, none⟩ (.string p)).setCell ⟨w.heap.size, 2, none⟩ (.string t)).setCell ⟨w.heap.size, 3, none⟩ (.string g)) = .ok (.tuple #[rv d p t g, .int .i64 n]) ((((X.now.setCell ⟨w.heap.size, 0, none⟩ (.string d)).setCell ⟨w.heap.size, 1, none⟩ (.string p)).setCell ⟨w.heap.size, 2, none⟩ (.string t)).setCell ⟨w.heap.size, 3, none⟩ (.string g)) ∧
   ∃ y : Ext w, ((((X.now.setCell ⟨w.heap.size, 0, none⟩ (.string d)).setCell ⟨w.heap.size, 1, none⟩ (.string p)).setCell ⟨w.heap.size, 2, none⟩ (.string t)).setCell ⟨w.heap.size, 3, none⟩ (.string g)) = y.now := by
 have b0 : Blk X.now w.heap.size [Value.string ⟨#[]⟩, Value.string ⟨#[]⟩, Value.string ⟨#[]⟩, Value.string ⟨#[]⟩] 23 := (Blk.new w [Value.string ⟨#[]⟩, Value.string ⟨#[]⟩, Value.string ⟨#[]⟩, Value.string ⟨#[]⟩] 23).chg (Chg.of_below X.below) (by simp)
 have b1 := (((b0.set 0 (.string d)).set 1 (.string p)).set 2 (.string t)).set 3 (.string g)
 have c1 : Chg [w.heap.size] w ((((X.now.setCell ⟨w.heap.size, 0, none⟩ (.string d)).setCell ⟨w.heap.size, 1, none⟩ (.string p)).setCell ⟨w.heap.size, 2, none⟩ (.string t)).setCell ⟨w.heap.size, 3, none⟩ (.string g)) :=
  (((((Chg.alloc w _).trans (Chg.of_below X.below)).trans (Chg.set _ w.heap.size 0 _)).trans (Chg.set _ w.heap.size 1 _)).trans ((Chg.set _ w.heap.size 2 _).trans (Chg.set _ w.heap.size 3 _))).mono (fun b h _ => by simpa using h)
 exact ⟨res_parse h2 h3 ((b1.cell 0).trans rfl) ((b1.cell 1).trans rfl) ((b1.cell 2).trans rfl) ((b1.cell 3).trans rfl), Ext.of (c1.below (Nat.le_refl _) (fun b hb => by simp at hb; omega))⟩

set_option maxRecDepth 100000 in
set_option maxHeartbeats 2000000 in
theorem parse_any (s : ByteArray) (w : World) (hs : s.size < 100000000000) :
  Calls Tryz.prog 11 #[.string s] w fun e w' => ∃ (d p t g : ByteArray) (n : Int), e = .returned (.tuple #[rv d p t g, .int .i64 n]) ∧ (n = 0 → PG s d p t g) ∧ ∃ y : Ext w, w' = y.now := by
 have HW := Lib.hid (fun W : World => wrong_any s W hs)
 have HG := Lib.hid (fun W : World => groups_any s W hs)
 go_enter Tryz.func11, Tryz.ntmps11
 go_wp2_with (first | (go_at_call 18; (with_reducible refine (HG.out _).mono ?_); rintro e w1 ⟨n, t, g, b, rfl, hrg, y, rfl⟩) | (go_at_call 19; (with_reducible refine (HW.out _).mono ?_); rintro e w2 ⟨m, rfl, hm, z, rfl⟩))
 ·refine bodyPost_ret (ret_parse (y.trans z) ⟨#[]⟩ ⟨#[]⟩ ⟨#[]⟩ ⟨#[]⟩ m _ rfl rfl).1 rfl ⟨⟨#[]⟩, ⟨#[]⟩, ⟨#[]⟩, ⟨#[]⟩, m, rfl, ?_, (ret_parse (y.trans z) ⟨#[]⟩ ⟨#[]⟩ ⟨#[]⟩ ⟨#[]⟩ m #[undef, undef, .pointer (some ⟨w.heap.size, 0, none⟩), .int .i64 m] rfl rfl).2⟩
  exact fun h => absurd h hm
 ·have hbt : b = true := by cases b with
   | true => rfl
   | false => simp_all
  subst hbt
  have hRG := hrg rfl
  have hns := hRG.size
  have HN := Lib.hid (fun W : World => groups_name n W (by omega))
  have HC := Lib.hid (fun W : World => check_any g W (by omega))
  have HRG := Lib.hid hRG
  clear hrg hRG
  go_wp2_with (first | (go_at_call 20; (with_reducible refine (HN.out _).mono ?_); rintro e w1 ⟨d, p, b2, rfl, hng, hnl, y2, rfl⟩) | (go_at_call 21; (with_reducible refine (HC.out _).mono ?_); rintro e w2 ⟨m, rfl, hm, z, rfl⟩))
  ·refine bodyPost_ret (ret_parse (y.trans y2) ⟨#[]⟩ ⟨#[]⟩ ⟨#[]⟩ ⟨#[]⟩ 6 _ rfl rfl).1 rfl ⟨⟨#[]⟩, ⟨#[]⟩, ⟨#[]⟩, ⟨#[]⟩, 6, rfl, ?_, (ret_parse (y.trans y2) ⟨#[]⟩ ⟨#[]⟩ ⟨#[]⟩ ⟨#[]⟩ 6 #[undef, undef, .pointer (some ⟨w.heap.size, 0, none⟩), .int .i64 6] rfl rfl).2⟩
   exact fun h => by omega
  ·rename_i hmz
   refine bodyPost_ret (ret_parse (y.trans (y2.trans z)) ⟨#[]⟩ ⟨#[]⟩ ⟨#[]⟩ ⟨#[]⟩ m _ rfl rfl).1 rfl ⟨⟨#[]⟩, ⟨#[]⟩, ⟨#[]⟩, ⟨#[]⟩, m, rfl, ?_, (ret_parse (y.trans (y2.trans z)) ⟨#[]⟩ ⟨#[]⟩ ⟨#[]⟩ ⟨#[]⟩ m #[undef, undef, .pointer (some ⟨w.heap.size, 0, none⟩), .int .i64 m] rfl rfl).2⟩
   exact fun h => by subst h; simp at hmz
  ·rename_i hple hge hmz
   refine bodyPost_ret (ret_parse (y.trans (y2.trans z)) d p t g 0 _ rfl rfl).1 rfl ⟨d, p, t, g, 0, rfl, ?_, (ret_parse (y.trans (y2.trans z)) d p t g 0 #[undef, undef, .pointer (some ⟨w.heap.size, 0, none⟩), .int .i64 0] rfl rfl).2⟩
   exact fun _ => ⟨⟨n, HRG.out, hng (hnl HRG.out.name)⟩, by omega, fun _ => hm (by simpa using hmz)⟩
  ·rename_i hple hge
   refine bodyPost_ret (ret_parse (y.trans y2) d p t g 0 _ rfl rfl).1 rfl ⟨d, p, t, g, 0, rfl, ?_, (ret_parse (y.trans y2) d p t g 0 #[undef, undef, .pointer (some ⟨w.heap.size, 0, none⟩), .int .i64 0] rfl rfl).2⟩
   exact fun _ => ⟨⟨n, HRG.out, hng (hnl HRG.out.name)⟩, by omega, fun h => absurd (by rw [empty_nats] at hge; simpa using hge) h⟩

end Go.Proofs.YtkbmigfkclnlaaaGreatDoor
namespace Go.Proofs.YtkbmigfkclnlaaaGreatDoor
open Go.RowKit Go.Rx
attribute [local go_sem] Ext.cell Ext.frozen Ext.lt Ext.lt_add Ext.cell2 Ext.frozen2

theorem ext_one (s : ByteArray) (i : Nat) (h : i < s.size) : nats (s.extract i (i + 1)) = [(nats s).getD i 0] := by
 have hl : i < (nats s).length := by rw [nats_length]; exact h
 rw [nats_extract, List.drop_take, Nat.add_sub_cancel_left, List.drop_eq_getElem_cons hl, List.getD_eq_getElem?_getD, List.getElem?_eq_getElem hl]
 rfl

theorem DG.at_ {g : ByteArray} {k : Nat} (h : DG g k) : (nats g).getD k 0 = 58 := by
 have hl : k < (nats g).length := by rw [nats_length]; exact h.lt
 have h1 : (nats g).getD k 0 = ((nats g).take k ++ 58 :: (nats g).drop (k + 1)).getD k 0 := by rw [← h.sep]
 rw [h1, List.getD_eq_getElem?_getD, List.getElem?_append_right (by rw [List.length_take]; omega), List.length_take]
 simp [Nat.min_eq_left (Nat.le_of_lt hl)]

theorem DG.before {g : ByteArray} {k : Nat} (h : DG g k) {i : Nat} (hi : i < k) : (nats g).getD i 0 ≠ 58 := by
 intro e
 have hl : i < (nats g).length := by rw [nats_length]; have := h.lt; omega
 refine h.no ?_
 rw [List.getD_eq_getElem?_getD, List.getElem?_eq_getElem hl] at e
 simp at e
 rw [← e]
 exact List.mem_take_iff_getElem.2 ⟨i, by omega, rfl⟩

set_option maxRecDepth 100000 in
theorem dindex_any {g : ByteArray} {k : Nat} (h : DG g k) (w : World) (hs : g.size < 100000000000) :
  Calls Tryz.prog 89 #[.string g, .string ⟨#[58]⟩] w fun e w' => e = .returned (.int .i64 k) ∧ w' = w := by
 have hlt := h.lt
 have hat := h.at_
 have H := Lib.hid h
 clear h
 go_enter Tryz.func89, Tryz.ntmps89
 go_wp2_with fail
 go_loopw [5] (fun t wr => ∃ i : Nat, t = .int .i64 i ∧ i ≤ k ∧ wr = w) (fun t _ => k - (intOf t).toNat)
 case atStart => exact ⟨0, rfl, Nat.zero_le _, rfl⟩
 case round =>
  obtain ⟨i, rfl, hik, rfl⟩ := hrel
  have p0 : (0 : Int) ≤ (i : Int) := by omega
  have p1 : (i : Int) + 1 ≤ (g.size : Int) := by omega
  have p2 : (0 : Int) ≤ (i : Int) + 1 := by omega
  have p3 : ((i : Int) + 1).toNat = i + 1 := by omega
  have p4 : (i : Int) ≤ (i : Int) + 1 := by omega
  have he := lit_nats (g.extract i (i + 1)) [58]
  rw [ext_one g i (by omega)] at he
  by_cases hlt2 : i < k
  ·have hq : ((g.extract i (i + 1)).toList == [(58 : UInt8)]) = false := by
    rw [he]
    exact decide_eq_false (fun e => by
     have : (nats g).getD i 0 = 58 := by simpa using e
     exact H.out.before hlt2 this)
   clear he hat
   go_wp2_with fail
   exact ⟨⟨i + 1, by simp, by omega, trivial⟩, by simp [intOf]; omega⟩
  ·have hik2 : i = k := by omega
   subst hik2
   have hq : ((g.extract i (i + 1)).toList == [(58 : UInt8)]) = true := by
    rw [he, hat]
    rfl
   clear he hat
   go_wp2_with fail
   go_ret
   exact ⟨rfl, rfl⟩

set_option maxRecDepth 100000 in
theorem zsize_any (s : ByteArray) (w : World) : Calls Tryz.prog 112 #[.string s] w fun e w' => e = .returned (.tuple #[.int .i64 (dsize (nats s) : Nat), .bool (!decide (dsize (nats s) = 0))]) ∧ w' = w := by
 unfold dsize
 by_cases h1 : nats s = [115, 104, 97, 50, 53, 54]
 ·have e1 := is_text s [115, 104, 97, 50, 53, 54] h1
  rw [if_pos h1]
  clear h1
  go_enter Tryz.func112, Tryz.ntmps112
  go_wp2
  go_ret2
  exact ⟨rfl, rfl⟩
 have e1 := not_text s [115, 104, 97, 50, 53, 54] h1
 rw [if_neg h1]
 clear h1
 by_cases h2 : nats s = [115, 104, 97, 51, 56, 52]
 ·have e2 := is_text s [115, 104, 97, 51, 56, 52] h2
  rw [if_pos h2]
  clear h2
  go_enter Tryz.func112, Tryz.ntmps112
  go_wp2
  go_ret2
  exact ⟨rfl, rfl⟩
 have e2 := not_text s [115, 104, 97, 51, 56, 52] h2
 rw [if_neg h2]
 clear h2
 by_cases h3 : nats s = [115, 104, 97, 53, 49, 50]
 ·have e3 := is_text s [115, 104, 97, 53, 49, 50] h3
  rw [if_pos h3]
  clear h3
  go_enter Tryz.func112, Tryz.ntmps112
  go_wp2
  go_ret2
  exact ⟨rfl, rfl⟩
 have e3 := not_text s [115, 104, 97, 53, 49, 50] h3
 rw [if_neg h3]
 clear h3
 go_enter Tryz.func112, Tryz.ntmps112
 go_wp2
 go_ret2
 exact ⟨rfl, rfl⟩

theorem available_any (s : ByteArray) (w : World) : Calls Tryz.prog 90 #[.string s] w fun e w' => e = .returned (.bool (!decide (dsize (nats s) = 0))) ∧ w' = w := by
 have H := Lib.hid (zsize_any s w)
 go_enter Tryz.func90, Tryz.ntmps90
 go_wp2_with (first | (go_at_call 112; (with_reducible refine H.out.mono ?_); rintro e w1 ⟨rfl, rfl⟩))
 go_ret
 exact ⟨rfl, rfl⟩

theorem algSize_any (s : ByteArray) (w : World) : Calls Tryz.prog 114 #[.string s] w fun e w' => e = .returned (.int .i64 (dsize (nats s) : Nat)) ∧ w' = w := by
 have H := Lib.hid (zsize_any s w)
 go_enter Tryz.func114, Tryz.ntmps114
 go_wp2_with (first | (go_at_call 112; (with_reducible refine H.out.mono ?_); rintro e w1 ⟨rfl, rfl⟩))
 go_ret
 exact ⟨rfl, rfl⟩

set_option maxRecDepth 100000 in
theorem encoded_any (s : ByteArray) (w : World) (hd : dsize (nats s) ≠ 0) : Calls Tryz.prog 113 #[.string s] w fun e w' => ∃ R O G rb, e = .returned (.tuple #[.pointer (some ⟨R, 0, none⟩), .bool true]) ∧ OnceAt w' R O G rb (2 * dsize (nats s)) ∧ ∃ y : Ext w, w' = y.now := by
 by_cases h1 : nats s = [115, 104, 97, 50, 53, 54]
 ·have e1 := is_text s [115, 104, 97, 50, 53, 54] h1
  have hz : 2 * dsize (nats s) = 64 := by unfold dsize; rw [if_pos h1]
  rw [hz]
  clear h1 hz hd
  go_enter Tryz.func113, Tryz.ntmps113
  go_wp2_with (first | (go_at_call 123; (with_reducible refine (dg64_any _).mono ?_); rintro e w1 ⟨R, O, G, rb, rfl, ho, y, rfl⟩))
  go_ret2
  exact ⟨R, O, G, rb, rfl, ho, y, rfl⟩
 have e1 := not_text s [115, 104, 97, 50, 53, 54] h1
 by_cases h2 : nats s = [115, 104, 97, 51, 56, 52]
 ·have e2 := is_text s [115, 104, 97, 51, 56, 52] h2
  have hz : 2 * dsize (nats s) = 96 := by unfold dsize; rw [if_neg h1, if_pos h2]
  rw [hz]
  clear h1 h2 hz hd
  go_enter Tryz.func113, Tryz.ntmps113
  go_wp2_with (first | (go_at_call 124; (with_reducible refine (dg96_any _).mono ?_); rintro e w1 ⟨R, O, G, rb, rfl, ho, y, rfl⟩))
  go_ret2
  exact ⟨R, O, G, rb, rfl, ho, y, rfl⟩
 have e2 := not_text s [115, 104, 97, 51, 56, 52] h2
 by_cases h3 : nats s = [115, 104, 97, 53, 49, 50]
 ·have e3 := is_text s [115, 104, 97, 53, 49, 50] h3
  have hz : 2 * dsize (nats s) = 128 := by unfold dsize; rw [if_neg h1, if_neg h2, if_pos h3]
  rw [hz]
  clear h1 h2 h3 hz hd
  go_enter Tryz.func113, Tryz.ntmps113
  go_wp2_with (first | (go_at_call 125; (with_reducible refine (dg128_any _).mono ?_); rintro e w1 ⟨R, O, G, rb, rfl, ho, y, rfl⟩))
  go_ret2
  exact ⟨R, O, G, rb, rfl, ho, y, rfl⟩
 exact absurd (by unfold dsize; rw [if_neg h1, if_neg h2, if_neg h3]) hd

set_option maxRecDepth 100000 in
theorem avalid_any (a h : ByteArray) (w : World) (hd : dsize (nats a) ≠ 0) (hl : h.size = 2 * dsize (nats a)) (hx : HexAll h) :
  Calls Tryz.prog 92 #[.string a, .string h] w fun e w' => e = .returned .nilIface ∧ ∃ y : Ext w, w' = y.now := by
 have H1 := Lib.hid (encoded_any a w hd)
 have H2 := Lib.hid (fun W : World => algSize_any a W)
 have hd2 : dsize (nats a) ≤ 64 := by
  unfold dsize
  split
  ·omega
  ·split
   ·omega
   ·split <;> omega
 have hn : (((dsize (nats a) : Nat) : Int) * 2 != ((h.size : Nat) : Int)) = false := by simp [bne]; omega
 have hb : 2 * dsize (nats a) < 1000 ∧ 0 < 2 * dsize (nats a) := by omega
 have HB := Lib.hid hb
 have HL := Lib.hid hl
 have HX := Lib.hid hx
 clear hd hl hx hb
 go_enter Tryz.func92, Tryz.ntmps92
 go_wp2_with (first | (go_at_call 113; (with_reducible refine H1.out.mono ?_); rintro e w1 ⟨R, O, G, rb, rfl, ho, y, rfl⟩) | (go_at_call 114; (with_reducible refine (H2.out _).mono ?_); rintro e w2 ⟨rfl, rfl⟩) | (go_at_call 26; (with_reducible refine (once_match ho HL.out HX.out HB.out.1 HB.out.2).mono ?_); rintro e w3 ⟨rfl, z, rfl⟩))
 go_ret
 exact ⟨rfl, Ext.both y z⟩

set_option maxRecDepth 100000 in
set_option maxHeartbeats 2000000 in
theorem dvalid_any {g : ByteArray} {k : Nat} (h : DG g k) (hs : g.size < 100000000000) (w : World) :
  Calls Tryz.prog 74 #[.string g] w fun e w' => e = .returned .nilIface ∧ ∃ y : Ext w, w' = y.now := by
 have hlt := h.lt
 have hlen := h.len
 have H1 := Lib.hid (dindex_any h w hs)
 have c2 := fun W : World => available_any (g.extract 0 k) W
 have hx : HexAll (g.extract (k + 1) g.size) := by
  intro i hi
  have := h.hex
  unfold allF at this
  simp only [Bool.and_eq_true, List.all_eq_true] at this
  refine this.2 _ ?_
  rw [← nats_drop, ← nats_at _ i hi, List.getD_eq_getElem?_getD, List.getElem?_eq_getElem (by rw [nats_length]; exact hi)]
  exact List.getElem_mem _
 have hz : (g.extract (k + 1) g.size).size = g.size - (k + 1) := by rw [ByteArray.size_extract]; omega
 have hal := h.alg
 have c3 := fun W : World => avalid_any (g.extract 0 k) (g.extract (k + 1) g.size) W (by rw [nats_take]; exact hal) (by rw [nats_take, hz]; omega) hx
 rw [nats_take, decide_eq_false hal] at c2
 have hk0 : 0 < k := by
  rcases Nat.eq_zero_or_pos k with h0 | h0
  ·subst h0
   exact absurd rfl hal
  ·exact h0
 have hd2 : 0 < dsize ((nats g).take k) := by omega
 have C2 := Lib.hid c2
 have C3 := Lib.hid c3
 have q0 : decide ((k : Int) ≤ 0) = false := decide_eq_false (by omega)
 have q1 : ((k : Int) + 1 == (g.size : Int)) = false := beq_eq_false_iff_ne.2 (by omega)
 have q2 : (k : Int) ≤ (g.size : Int) := by omega
 have q3 : (k : Int) + 1 ≤ (g.size : Int) := by omega
 have q4 : (0 : Int) ≤ (k : Int) + 1 := by omega
 have q5 : ((k : Int) + 1).toNat = k + 1 := by omega
 have q6 : IntKind.i64.wrap ((k : Int) + 1) = (k : Int) + 1 := by rw [Go.IntWalk.i64_left]; exact Go.IntWalk.wrap64_in _ (by omega)
 have q7 : (0 : Int) ≤ (k : Int) := by omega
 clear h hlen c2 c3 hx hz hal hd2
 go_enter Tryz.func74, Tryz.ntmps74
 go_wp2_with (first | (go_at_call 89; (with_reducible refine H1.out.mono ?_); rintro e w1 ⟨rfl, rfl⟩))
 go_region_with fail
 go_simp
 go_wp2_with (first | (go_at_call 90; (with_reducible refine (C2.out _).mono ?_); rintro e w1 ⟨rfl, rfl⟩) | (go_at_call 92; (with_reducible refine (C3.out _).mono ?_); rintro e w1 ⟨rfl, y, rfl⟩))
 go_ret
 exact ⟨rfl, Ext.both (Ext.drewn _) y⟩

theorem dparse_any {g : ByteArray} {k : Nat} (h : DG g k) (hs : g.size < 100000000000) (w : World) :
  Calls Tryz.prog 51 #[.string g] w fun e w' => e = .returned (.tuple #[.string g, .nilIface]) ∧ ∃ y : Ext w, w' = y.now := by
 have H1 := Lib.hid (fun W : World => dvalid_any h hs W)
 clear h
 go_enter Tryz.func51, Tryz.ntmps51
 go_wp2_with (first | (go_at_call 74; (with_reducible refine (H1.out _).mono ?_); rintro e w1 ⟨rfl, y, rfl⟩))
 go_ret2
 exact ⟨rfl, y, rfl⟩

end Go.Proofs.YtkbmigfkclnlaaaGreatDoor
namespace Go.Proofs.YtkbmigfkclnlaaaGreatDoor
open Go.RowKit Go.Rx
attribute [local go_sem] Ext.cell Ext.frozen Ext.lt Ext.lt_add Ext.cell2 Ext.frozen2

theorem ref_refit : ReFit refList 8 refRanks 8 724 1 512 where
 fit := ref_fit
 top := ref_top
 one := ⟨(progOf refList 1).out, eq_of_instEq (by decide +kernel)⟩
 len := by rw [ref_len]; omega
 nc := by omega
 bs := by intro n hn; rw [ref_len]; omega
 mbs := by omega
 mp := by omega
 nq := by rw [ref_len]; omega

theorem name_refit : ReFit nameList 6 nameRanks 6 4443 0 128 where
 fit := name_fit
 top := name_top
 one := ⟨(progOf nameList 1).out, eq_of_instEq (by decide +kernel)⟩
 len := by rw [name_len]; omega
 nc := by omega
 bs := by intro n hn; rw [name_len]; omega
 mbs := by omega
 mp := by omega
 nq := by rw [name_len]; omega

theorem dom_lt {d : List Nat} (h : Domain d) : ∀ x ∈ d, x < 128 := fun x hx => by
 have := domain_chars h x hx
 unfold Dch at this
 omega

theorem path_lt {d : List Nat} (h : Path d) : ∀ x ∈ d, x < 128 := fun x hx => by
 have := path_chars h x hx
 unfold Pch at this
 omega

theorem nameL_lt {v : List Nat} (h : NameL v) : ∀ x ∈ v, x < 128 := by
 rcases (nameL_iff v).1 h with h | ⟨d, p, rfl, hd, hp⟩
 ·exact path_lt h
 ·intro x hx
  rcases List.mem_append.1 hx with hx | hx
  ·exact dom_lt hd x hx
  ·rcases List.mem_cons.1 hx with rfl | hx
   ·omega
   ·exact path_lt hp x hx

theorem one_lt {p : Nat → Bool} (hp : ∀ x, p x = true → x < 128) : ∀ v, Env.One p v → ∀ x ∈ v, x < 128 := by
 rintro v ⟨y, rfl, hy⟩ x hx
 simp at hx
 rw [hx]
 exact hp y hy

theorem aln_lt (x : Nat) (h : aln x = true) : x < 128 := by
 simp [aln, low, dig] at h
 omega

theorem hex_lt (x : Nat) (h : hex x = true) : x < 128 := by
 simp [hex, dig] at h
 omega

theorem dig_lt {v : List Nat} (h : Dig v) : ∀ x ∈ v, x < 128 := by
 have h1 : ∀ v, AlgW v → ∀ x ∈ v, x < 128 := fun v h => cat_chars (one_lt (fun x hx => aln_lt x (by simp [ltr] at hx; exact hx.1))) (fun v h => star_chars (one_lt aln_lt) h) h
 have h2 : ∀ v, Alg v → ∀ x ∈ v, x < 128 := fun v h => cat_chars h1 (fun v h => star_chars (fun v h => cat_chars (one_lt (fun x hx => by simp [asp, is] at hx; omega)) h1 h) h) h
 refine cat_chars h2 (fun v h => cat_chars (one_lt (fun x hx => by simp [is] at hx; omega)) (fun v h => cat_chars (fun v h x hx => hex_lt x (((times_iff _ _ _).1 h).2 x hx)) (fun v h x hx => hex_lt x (((plus_one _ _).1 h).2 x hx)) h) h) h

theorem plain_nats {s : ByteArray} (h : ∀ x ∈ nats s, x < 128) : Plain s := by
 intro i hi
 have h1 := nats_at s i hi
 rw [← h1]
 refine h _ ?_
 rw [List.getD_eq_getElem?_getD, List.getElem?_eq_getElem (by rw [nats_length]; exact hi)]
 exact List.getElem_mem _

theorem RG.lt {s n t g : ByteArray} (h : RG s n t g) : ∀ x ∈ nats s, x < 128 := by
 intro x hx
 rw [h.text] at hx
 rcases List.mem_append.1 hx with hx | hx
 ·exact nameL_lt h.name x hx
 ·rcases List.mem_append.1 hx with hx | hx
  ·by_cases ht : nats t = []
   ·unfold optN at hx; rw [if_pos ht] at hx; cases hx
   ·rw [opt_some ht] at hx
    rcases List.mem_cons.1 hx with rfl | hx
    ·omega
    ·exact (tch_bounds (tag_chars (h.tag ht) x hx)).2.2.2
  ·by_cases ht : nats g = []
   ·unfold optN at hx; rw [if_pos ht] at hx; cases hx
   ·rw [opt_some ht] at hx
    rcases List.mem_cons.1 hx with rfl | hx
    ·omega
    ·exact dig_lt (h.dig ht) x hx

theorem extract_is {s t : ByteArray} {a b : Nat} (h : ((nats s).take b).drop a = nats t) : s.extract a b = t := nats_inj (by rw [nats_extract, h])

theorem nats_empty {t : ByteArray} (h : nats t = []) : t = ByteArray.empty := nats_inj (by rw [h, nats_nil])

theorem RG.caps {s n t g : ByteArray} (h : RG s n t g) : (List.range 4).map (fun i => Value.string (subOf s (refCaps (nats n) (optN t) (optN g)) i)) = [.string s, .string n, .string t, .string g] ∧
  ∀ i, i ≤ 3 → (refCaps (nats n) (optN t) (optN g)).getD (2 * i) (-1) = -1 ∨ (0 ≤ (refCaps (nats n) (optN t) (optN g)).getD (2 * i) (-1) ∧ (refCaps (nats n) (optN t) (optN g)).getD (2 * i) (-1) ≤ (refCaps (nats n) (optN t) (optN g)).getD (2 * i + 1) 0 ∧ (refCaps (nats n) (optN t) (optN g)).getD (2 * i + 1) 0 ≤ s.size) := by
 have hx := h.text
 have hl : s.size = (nats n).length + (tagPart (optN t)).length + (digPart (optN g)).length := by
  rw [← nats_length s, hx, List.length_append, List.length_append]
  omega
 have e0 : subOf s (refCaps (nats n) (optN t) (optN g)) 0 = s := by
  have : subOf s (refCaps (nats n) (optN t) (optN g)) 0 = s.extract 0 s.size := by
   rw [hl]
   simp [subOf, refCaps]
   rfl
  rw [this]
  exact extract_is (by rw [List.drop_zero, ← nats_length, List.take_length])
 have e1 : subOf s (refCaps (nats n) (optN t) (optN g)) 1 = n := by
  have : subOf s (refCaps (nats n) (optN t) (optN g)) 1 = s.extract 0 (nats n).length := by
   simp [subOf, refCaps]
  rw [this]
  exact extract_is (by rw [List.drop_zero, hx]; simp)
 have e2 : subOf s (refCaps (nats n) (optN t) (optN g)) 2 = t := by
  by_cases ht : nats t = []
  ·rw [nats_empty ht, opt_nil]
   simp [subOf, refCaps]
  ·rw [opt_some ht] at hx ⊢
   have : subOf s (refCaps (nats n) (some (nats t)) (optN g)) 2 = s.extract ((nats n).length + 1) ((nats n).length + 1 + (nats t).length) := by
    simp [subOf, refCaps]
    rw [if_pos (by omega)]
    congr 1
   rw [this]
   refine extract_is ?_
   rw [hx, List.drop_take, show nats n ++ (tagPart (some (nats t)) ++ digPart (optN g)) = (nats n ++ [58]) ++ (nats t ++ digPart (optN g)) by simp [tagPart], List.drop_left' (by simp)]
   simp
 have e3 : subOf s (refCaps (nats n) (optN t) (optN g)) 3 = g := by
  by_cases ht : nats g = []
  ·rw [nats_empty ht, opt_nil]
   simp [subOf, refCaps]
  ·rw [opt_some ht] at hx hl ⊢
   have : subOf s (refCaps (nats n) (optN t) (some (nats g))) 3 = s.extract ((nats n).length + (tagPart (optN t)).length + 1) s.size := by
    rw [hl]
    simp [subOf, refCaps]
    rw [if_pos (by omega)]
    congr 1
   rw [this]
   refine extract_is ?_
   rw [← nats_length, List.take_length, hx, ← List.append_assoc, show (nats n).length + (tagPart (optN t)).length + 1 = (nats n ++ tagPart (optN t)).length + 1 by simp, List.drop_append]
   simp [digPart]
 refine ⟨?_, ?_⟩
 ·show [Value.string (subOf s (refCaps (nats n) (optN t) (optN g)) 0), Value.string (subOf s (refCaps (nats n) (optN t) (optN g)) 1), Value.string (subOf s (refCaps (nats n) (optN t) (optN g)) 2), Value.string (subOf s (refCaps (nats n) (optN t) (optN g)) 3)] = _
  rw [e0, e1, e2, e3]
 ·intro i hi
  rw [hl]
  cases ho : optN t with
  | none =>
   cases hg : optN g with
   | none =>
    match i, hi with
    | 0, _ => exact .inr (by simp [refCaps, tagPart, digPart])
    | 1, _ => exact .inr (by simp [refCaps, tagPart, digPart])
    | 2, _ => exact .inl rfl
    | 3, _ => exact .inl rfl
   | some x =>
    match i, hi with
    | 0, _ => exact .inr (by simp [refCaps, tagPart, digPart]; omega)
    | 1, _ => exact .inr (by simp [refCaps, tagPart, digPart]; omega)
    | 2, _ => exact .inl rfl
    | 3, _ => exact .inr (by simp [refCaps, tagPart, digPart]; omega)
  | some y =>
   cases hg : optN g with
   | none =>
    match i, hi with
    | 0, _ => exact .inr (by simp [refCaps, tagPart, digPart]; omega)
    | 1, _ => exact .inr (by simp [refCaps, tagPart, digPart]; omega)
    | 2, _ => exact .inr (by simp [refCaps, tagPart, digPart]; omega)
    | 3, _ => exact .inl rfl
   | some x =>
    match i, hi with
    | 0, _ => exact .inr (by simp [refCaps, tagPart, digPart]; omega)
    | 1, _ => exact .inr (by simp [refCaps, tagPart, digPart]; omega)
    | 2, _ => exact .inr (by simp [refCaps, tagPart, digPart]; omega)
    | 3, _ => exact .inr (by simp [refCaps, tagPart, digPart]; omega)

end Go.Proofs.YtkbmigfkclnlaaaGreatDoor
