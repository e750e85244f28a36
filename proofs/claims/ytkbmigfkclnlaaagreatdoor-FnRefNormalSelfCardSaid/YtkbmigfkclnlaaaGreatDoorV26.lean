/-
laws.FnRefNormalSelf answers true for every reference, and leaves the reference as it was; the variables that its row lists are tied to the program's text.
-/
import Derived.Test.YtkbmigfkclnlaaaGreatDoorV25
import Derived.Test.YtkbmigfkclnlaaaGreatDoorV22
import Derived.Test.YtkbmigfkclnlaaaGreatDoorCards
import Derived.Test.YtkbmigfkclnlaaaGreatDoorTie
import Derived.WalkKit
import Derived.ProofKit
import Derived.OpenShut
import Derived.Lib.SmallJoins
import Derived.Deep.DeepHandedRow
import Derived.Deep.DeepWitnessRowRef
import Derived.Lib.LaidTab
import Derived.LaidMore
set_option linter.all false
namespace Go.Proofs.YtkbmigfkclnlaaaGreatDoor
open Go.RowKit Go.Rx
attribute [local go_sem] Ext.cell Ext.frozen Ext.lt Ext.lt_add Ext.cell2 Ext.frozen2

theorem res_told {W : World} {H : Nat} {d p t g : ByteArray} {n : Int} {tmps : Array Value} (h2 : tmps.getD 4 undef = .pointer (some ⟨H, 0, none⟩)) (h3 : tmps.getD 5 undef = .int .i64 n)
  (c0 : W.cell? ⟨H, 0, none⟩ = some (.string d)) (c1 : W.cell? ⟨H, 1, none⟩ = some (.string p)) (c2 : W.cell? ⟨H, 2, none⟩ = some (.string t)) (c3 : W.cell? ⟨H, 3, none⟩ = some (.string g)) :
  (results Tryz.f14 tmps).run Tryz.prog W = .ok (.tuple #[rv d p t g, .int .i64 n]) W := by
 have h2' : tmps[4]?.getD undef = .pointer (some ⟨H, 0, none⟩) := by rw [← h2]; simp
 have h3' : tmps[5]?.getD undef = .int .i64 n := by rw [← h3]; simp
 simp [results, Tryz.results14, go_sem, h2', h3', c0, c1, c2, c3, rv, loadCellsFrom, Addr.add]

theorem ret_told {w : World} (X : Ext (w.alloc (Obj.cells #[Value.string ⟨#[]⟩, Value.string ⟨#[]⟩, Value.string ⟨#[]⟩, Value.string ⟨#[]⟩] 23))) (d p t g : ByteArray) (n : Int) (tmps : Array Value)
  (h2 : tmps.getD 4 undef = .pointer (some ⟨w.heap.size, 0, none⟩)) (h3 : tmps.getD 5 undef = .int .i64 n) :
  (results Tryz.f14 tmps).run Tryz.prog ((((X.now.setCell ⟨w.heap.size, 0, none⟩ (.string d)).setCell ⟨w.heap.size, 1, none⟩ (.string p)).setCell ⟨w.heap.size, 2, none⟩ (.string t)).setCell ⟨w.heap.size, 3, none⟩ (.string g)) = .ok (.tuple #[rv d p t g, .int .i64 n]) ((((X.now.setCell ⟨w.heap.size, 0, none⟩ (.string d)).setCell ⟨w.heap.size, 1, none⟩ (.string p)).setCell ⟨w.heap.size, 2, none⟩ (.string t)).setCell ⟨w.heap.size, 3, none⟩ (.string g)) ∧
   ∃ y : Ext w, ((((X.now.setCell ⟨w.heap.size, 0, none⟩ (.string d)).setCell ⟨w.heap.size, 1, none⟩ (.string p)).setCell ⟨w.heap.size, 2, none⟩ (.string t)).setCell ⟨w.heap.size, 3, none⟩ (.string g)) = y.now := by
 have b0 : Blk X.now w.heap.size [Value.string ⟨#[]⟩, Value.string ⟨#[]⟩, Value.string ⟨#[]⟩, Value.string ⟨#[]⟩] 23 := (Blk.new w [Value.string ⟨#[]⟩, Value.string ⟨#[]⟩, Value.string ⟨#[]⟩, Value.string ⟨#[]⟩] 23).chg (Chg.of_below X.below) (by simp)
 have b1 := (((b0.set 0 (.string d)).set 1 (.string p)).set 2 (.string t)).set 3 (.string g)
 have c1 : Chg [w.heap.size] w ((((X.now.setCell ⟨w.heap.size, 0, none⟩ (.string d)).setCell ⟨w.heap.size, 1, none⟩ (.string p)).setCell ⟨w.heap.size, 2, none⟩ (.string t)).setCell ⟨w.heap.size, 3, none⟩ (.string g)) :=
  (((((Chg.alloc w _).trans (Chg.of_below X.below)).trans (Chg.set _ w.heap.size 0 _)).trans (Chg.set _ w.heap.size 1 _)).trans ((Chg.set _ w.heap.size 2 _).trans (Chg.set _ w.heap.size 3 _))).mono (fun b h _ => by simpa using h)
 exact ⟨res_told h2 h3 ((b1.cell 0).trans rfl) ((b1.cell 1).trans rfl) ((b1.cell 2).trans rfl) ((b1.cell 3).trans rfl), Ext.of (c1.below (Nat.le_refl _) (fun b hb => by simp at hb; omega))⟩

theorem res_rp {W : World} {H : Nat} {d p t g : ByteArray} {n : Int} {tmps : Array Value} (h2 : tmps.getD 2 undef = .pointer (some ⟨H, 0, none⟩)) (h3 : tmps.getD 3 undef = .int .i64 n)
  (c0 : W.cell? ⟨H, 0, none⟩ = some (.string d)) (c1 : W.cell? ⟨H, 1, none⟩ = some (.string p)) (c2 : W.cell? ⟨H, 2, none⟩ = some (.string t)) (c3 : W.cell? ⟨H, 3, none⟩ = some (.string g)) :
  (results Tryz.f8 tmps).run Tryz.prog W = .ok (.tuple #[rv d p t g, .int .i64 n]) W := by
 have h2' : tmps[2]?.getD undef = .pointer (some ⟨H, 0, none⟩) := by rw [← h2]; simp
 have h3' : tmps[3]?.getD undef = .int .i64 n := by rw [← h3]; simp
 simp [results, Tryz.results8, go_sem, h2', h3', c0, c1, c2, c3, rv, loadCellsFrom, Addr.add]

theorem ret_rp {w : World} (X : Ext (w.alloc (Obj.cells #[Value.string ⟨#[]⟩, Value.string ⟨#[]⟩, Value.string ⟨#[]⟩, Value.string ⟨#[]⟩] 23))) (d p t g : ByteArray) (n : Int) (tmps : Array Value)
  (h2 : tmps.getD 2 undef = .pointer (some ⟨w.heap.size, 0, none⟩)) (h3 : tmps.getD 3 undef = .int .i64 n) :
  (results Tryz.f8 tmps).run Tryz.prog ((((X.now.setCell ⟨w.heap.size, 0, none⟩ (.string d)).setCell ⟨w.heap.size, 1, none⟩ (.string p)).setCell ⟨w.heap.size, 2, none⟩ (.string t)).setCell ⟨w.heap.size, 3, none⟩ (.string g)) = .ok (.tuple #[rv d p t g, .int .i64 n]) ((((X.now.setCell ⟨w.heap.size, 0, none⟩ (.string d)).setCell ⟨w.heap.size, 1, none⟩ (.string p)).setCell ⟨w.heap.size, 2, none⟩ (.string t)).setCell ⟨w.heap.size, 3, none⟩ (.string g)) ∧
   ∃ y : Ext w, ((((X.now.setCell ⟨w.heap.size, 0, none⟩ (.string d)).setCell ⟨w.heap.size, 1, none⟩ (.string p)).setCell ⟨w.heap.size, 2, none⟩ (.string t)).setCell ⟨w.heap.size, 3, none⟩ (.string g)) = y.now := by
 have b0 : Blk X.now w.heap.size [Value.string ⟨#[]⟩, Value.string ⟨#[]⟩, Value.string ⟨#[]⟩, Value.string ⟨#[]⟩] 23 := (Blk.new w [Value.string ⟨#[]⟩, Value.string ⟨#[]⟩, Value.string ⟨#[]⟩, Value.string ⟨#[]⟩] 23).chg (Chg.of_below X.below) (by simp)
 have b1 := (((b0.set 0 (.string d)).set 1 (.string p)).set 2 (.string t)).set 3 (.string g)
 have c1 : Chg [w.heap.size] w ((((X.now.setCell ⟨w.heap.size, 0, none⟩ (.string d)).setCell ⟨w.heap.size, 1, none⟩ (.string p)).setCell ⟨w.heap.size, 2, none⟩ (.string t)).setCell ⟨w.heap.size, 3, none⟩ (.string g)) :=
  (((((Chg.alloc w _).trans (Chg.of_below X.below)).trans (Chg.set _ w.heap.size 0 _)).trans (Chg.set _ w.heap.size 1 _)).trans ((Chg.set _ w.heap.size 2 _).trans (Chg.set _ w.heap.size 3 _))).mono (fun b h _ => by simpa using h)
 exact ⟨res_rp h2 h3 ((b1.cell 0).trans rfl) ((b1.cell 1).trans rfl) ((b1.cell 2).trans rfl) ((b1.cell 3).trans rfl), Ext.of (c1.below (Nat.le_refl _) (fun b hb => by simp at hb; omega))⟩

set_option maxRecDepth 100000 in
set_option maxHeartbeats 2000000 in
theorem told_any (d p t g : ByteArray) (hp : p.toList.isEmpty = false) (w : World) :
  Calls Tryz.prog 14 #[refV d p t g, .nilIface] w fun e w' => e = .returned (.tuple #[rv d p t g, .int .i64 0]) ∧ ∃ y : Ext w, w' = y.now := by
 have H := Lib.hid (fun W : World => plain_any d p t g hp W)
 obtain ⟨V, hV⟩ : ∃ V, V = refV d p t g := ⟨_, rfl⟩
 rw [← hV] at H ⊢
 clear hV hp
 go_enter Tryz.func14, Tryz.ntmps14
 go_wp2_with (first | (go_at_call 24; (with_reducible refine (H.out _).mono ?_); rintro e w1 ⟨rfl, y, rfl⟩))
 exact bodyPost_ret (ret_told (y) d p t g 0 _ rfl rfl).1 rfl ⟨rfl, (ret_told (y) d p t g 0 #[undef, undef, undef, undef, .pointer (some ⟨w.heap.size, 0, none⟩), .int .i64 0] rfl rfl).2⟩

theorem specText_size (d p t g : ByteArray) : (specText d p t g).size ≤ d.size + p.size + t.size + g.size + 3 := by
 have h1 := nm_size d p
 have h2 : (⟨#[58]⟩ : ByteArray).size = 1 := rfl
 have h3 : (⟨#[64]⟩ : ByteArray).size = 1 := rfl
 unfold specText
 split
 ·omega
 ·split
  ·split
   ·omega
   ·simp only [ByteArray.size_append]; omega
  ·split
   ·simp only [ByteArray.size_append]; omega
   ·simp only [ByteArray.size_append]; omega

set_option maxRecDepth 100000 in
set_option maxHeartbeats 2000000 in
theorem text_any (d p t g : ByteArray) (hpe : p.toList.isEmpty = false) (hs : d.size + p.size + t.size + g.size ≤ 10000000000) (w : World) :
  Calls Tryz.prog 9 #[rv d p t g] w fun e w' => e = .returned (.string (specText d p t g)) ∧ ∃ y : Ext w, w' = y.now := by
 have hr := fun W : World => ref_any d p t g W (by omega) (fun h => by rw [hpe] at h; cases h) (fun h => by rw [hpe] at h; cases h)
 have hpn : ¬ p.toList.isEmpty = true := by rw [hpe]; simp
 unfold refV at hr
 unfold specText
 rw [if_neg hpn] at hr ⊢
 by_cases ht : t.toList.isEmpty = true
 ·rw [if_pos ht] at hr ⊢
  by_cases hg : g.toList.isEmpty = true
  ·rw [if_pos hg] at hr ⊢
   have H := Lib.hid hr
   clear hr ht hg hpn hpe
   go_enter Tryz.func9, Tryz.ntmps9
   go_wp2_with (first | (go_at_call 16; (with_reducible refine (H.out _).mono ?_); rintro e w1 ⟨rfl, y1, rfl⟩) | (go_at_call 147; (with_reducible refine (repoString_any d p _ (by omega)).mono ?_); rintro e w2 ⟨rfl, y2, rfl⟩))
   go_ret
   exact ⟨rfl, Ext.viab y1 y2⟩
  ·rw [if_neg hg] at hr ⊢
   have H := Lib.hid hr
   clear hr ht hg hpn hpe
   go_enter Tryz.func9, Tryz.ntmps9
   go_wp2_with (first | (go_at_call 16; (with_reducible refine (H.out _).mono ?_); rintro e w1 ⟨rfl, y1, rfl⟩) | (go_at_call 154; (with_reducible refine (crString_any d p g _ (by omega)).mono ?_); rintro e w2 ⟨rfl, y2, rfl⟩))
   go_ret
   exact ⟨by simp [ByteArray.append_assoc], Ext.viab y1 y2⟩
 ·rw [if_neg ht] at hr ⊢
  by_cases hg : g.toList.isEmpty = true
  ·rw [if_pos hg] at hr ⊢
   have H := Lib.hid hr
   clear hr ht hg hpn hpe
   go_enter Tryz.func9, Tryz.ntmps9
   go_wp2_with (first | (go_at_call 16; (with_reducible refine (H.out _).mono ?_); rintro e w1 ⟨rfl, y1, rfl⟩) | (go_at_call 155; (with_reducible refine (trString_any d p t _ (by omega)).mono ?_); rintro e w2 ⟨rfl, y2, rfl⟩))
   go_ret
   exact ⟨by simp [ByteArray.append_assoc], Ext.viab y1 y2⟩
  ·rw [if_neg hg] at hr ⊢
   have H := Lib.hid hr
   clear hr ht hg hpn hpe
   go_enter Tryz.func9, Tryz.ntmps9
   go_wp2_with (first | (go_at_call 16; (with_reducible refine (H.out _).mono ?_); rintro e w1 ⟨rfl, y1, rfl⟩) | (go_at_call 149; (with_reducible refine (rfString_any d p t g _ (by omega)).mono ?_); rintro e w2 ⟨rfl, y2, rfl⟩))
   go_ret
   exact ⟨by simp [ByteArray.append_assoc], Ext.viab y1 y2⟩

end Go.Proofs.YtkbmigfkclnlaaaGreatDoor
namespace Go.Proofs.YtkbmigfkclnlaaaGreatDoor
open Go.RowKit Go.Rx
attribute [local go_sem] Ext.cell Ext.frozen Ext.lt Ext.lt_add Ext.cell2 Ext.frozen2

set_option maxRecDepth 100000 in
set_option maxHeartbeats 4000000 in
theorem split_any {s d r : ByteArray} (h : nats s = nats d ++ 47 :: nats r) (ht : takesF (nats d) = true) (ho : nats d ≠ oldL) (hh : nats d = hubL → 47 ∈ nats r) (hs : s.size < 8000000000) (hp : Plain s) (w : World) :
  Calls Tryz.prog 28 #[.string s] w fun e w' => e = .returned (.tuple #[.string d, .string r]) ∧ ∃ y : Ext w, w' = y.now := by
 obtain ⟨_, hd47⟩ := takes_ne ht
 have hl := congrArg List.length h
 rw [nats_length, List.length_append, List.length_cons, nats_length, nats_length] at hl
 have hpd : Plain d := plain_nats fun x hx => nats_plain hp x (by rw [h]; simp [hx])
 have hpr : Plain r := plain_nats fun x hx => nats_plain hp x (by rw [h]; simp [hx])
 have H1 := Lib.hid (cut_any h hd47 w (by omega))
 have H2 := Lib.hid (fun W : World => cany_any d hpd (by omega) W)
 have H3 := Lib.hid (fun W : World => lower_any d hpd (by omega) W)
 have H4 := Lib.hid (fun W : World => crune_lit r 47 47 rfl hpr (by omega) (by omega) W)
 have q1 : (d.toList == [108, 111, 99, 97, 108, 104, 111, 115, 116]) = decide (nats d = localL) := lit_nats d [108, 111, 99, 97, 108, 104, 111, 115, 116]
 have q2 : (d.toList == [105, 110, 100, 101, 120, 46, 100, 111, 99, 107, 101, 114, 46, 105, 111]) = false := (lit_nats d [105, 110, 100, 101, 120, 46, 100, 111, 99, 107, 101, 114, 46, 105, 111]).trans (decide_eq_false ho)
 have q3 : (d.toList == [100, 111, 99, 107, 101, 114, 46, 105, 111]) = decide (nats d = hubL) := lit_nats d [100, 111, 99, 107, 101, 114, 46, 105, 111]
 have q4 : ∀ t : ByteArray, nats t = (nats d).map lowc → (t.toList == d.toList) = decide ((nats d).map lowc = nats d) := fun t ht => by rw [beq_nats, ht]
 have q5 : decide (nats d = hubL) = true → decide (0 ≤ firstF 47 (nats r)) = true := fun e => decide_eq_true ((firstF_in 47 _).2 (hh (of_decide_eq_true e)))
 have hta : ((decide (0 ≤ firstF 46 (nats d)) || decide (0 ≤ firstF 58 (nats d))) || decide (nats d = localL) || !decide ((nats d).map lowc = nats d)) = true := by
  unfold takesF at ht
  rw [Bool.and_eq_true] at ht
  exact ht.2
 generalize decide (nats d = localL) = bl at q1 hta
 generalize decide (nats d = hubL) = bh at q3 q5
 generalize decide (0 ≤ firstF 47 (nats r)) = bs at q5 H4
 generalize (decide (0 ≤ firstF 46 (nats d)) || decide (0 ≤ firstF 58 (nats d))) = bc at hta H2
 generalize hm : decide ((nats d).map lowc = nats d) = bm at hta q4
 have Q4 := Lib.hid q4
 clear q4 hm h ht ho hh hp hpd hpr
 have hfin : bh = true → bs = true := q5
 clear q5
 cases bl with
 | true =>
  cases bh with
  | true =>
   obtain rfl := hfin rfl
   go_enter Tryz.func28, Tryz.ntmps28
   go_wp2_with (first | (go_at_call 45; (with_reducible refine H1.out.mono ?_); rintro e w1 ⟨rfl, y1, rfl⟩) | (go_at_call 47; (with_reducible refine (H4.out _).mono ?_); rintro e w1 ⟨rfl, y2, rfl⟩))
   go_ret2
   exact ⟨rfl, Ext.both y1 y2⟩
  | false =>
   go_enter Tryz.func28, Tryz.ntmps28
   go_wp2_with (first | (go_at_call 45; (with_reducible refine H1.out.mono ?_); rintro e w1 ⟨rfl, y1, rfl⟩))
   go_ret2
   exact ⟨rfl, y1, rfl⟩
 | false =>
  cases bc with
  | true =>
   cases bh with
   | true =>
    obtain rfl := hfin rfl
    go_enter Tryz.func28, Tryz.ntmps28
    go_wp2_with (first | (go_at_call 45; (with_reducible refine H1.out.mono ?_); rintro e w1 ⟨rfl, y1, rfl⟩) | (go_at_call 46; (with_reducible refine (H2.out _).mono ?_); rintro e w1 ⟨rfl, y2, rfl⟩) | (go_at_call 47; (with_reducible refine (H4.out _).mono ?_); rintro e w1 ⟨rfl, y3, rfl⟩))
    go_ret2
    exact ⟨rfl, (y1.trans y2).trans y3, rfl⟩
   | false =>
    go_enter Tryz.func28, Tryz.ntmps28
    go_wp2_with (first | (go_at_call 45; (with_reducible refine H1.out.mono ?_); rintro e w1 ⟨rfl, y1, rfl⟩) | (go_at_call 46; (with_reducible refine (H2.out _).mono ?_); rintro e w1 ⟨rfl, y2, rfl⟩))
    go_ret2
    exact ⟨rfl, y1.trans y2, rfl⟩
  | false =>
   obtain rfl : bm = false := by simpa using hta
   cases bh with
   | true =>
    obtain rfl := hfin rfl
    go_enter Tryz.func28, Tryz.ntmps28
    go_wp2_with (first | (go_at_call 45; (with_reducible refine H1.out.mono ?_); rintro e w1 ⟨rfl, y1, rfl⟩) | (go_at_call 46; (with_reducible refine (H2.out _).mono ?_); rintro e w1 ⟨rfl, y2, rfl⟩) | (go_at_call 30; (with_reducible refine (H3.out _).mono ?_); rintro e w1 ⟨t, rfl, ht, y3, rfl⟩; have q4 := Q4.out t ht) | (go_at_call 47; (with_reducible refine (H4.out _).mono ?_); rintro e w1 ⟨rfl, y4, rfl⟩))
    go_ret2
    exact ⟨rfl, ((y1.trans y2).trans y3).trans y4, rfl⟩
   | false =>
    go_enter Tryz.func28, Tryz.ntmps28
    go_wp2_with (first | (go_at_call 45; (with_reducible refine H1.out.mono ?_); rintro e w1 ⟨rfl, y1, rfl⟩) | (go_at_call 46; (with_reducible refine (H2.out _).mono ?_); rintro e w1 ⟨rfl, y2, rfl⟩) | (go_at_call 30; (with_reducible refine (H3.out _).mono ?_); rintro e w1 ⟨t, rfl, ht, y3, rfl⟩; have q4 := Q4.out t ht))
    go_ret2
    exact ⟨rfl, (y1.trans y2).trans y3, rfl⟩

theorem nm_50 (v : Value) (W : World) : (Instr.typeAssert (.iface 104 v) 39 33 true).run Tryz.prog W = .ok (.tuple #[.iface 104 v, .bool true]) W := by kernel_rfl
theorem nm_96 (v : Value) (W : World) : (Instr.typeAssert (.iface 141 v) 39 33 true).run Tryz.prog W = .ok (.tuple #[.iface 141 v, .bool true]) W := by kernel_rfl
theorem nm_98 (v : Value) (W : World) : (Instr.typeAssert (.iface 143 v) 39 33 true).run Tryz.prog W = .ok (.tuple #[.iface 143 v, .bool true]) W := by kernel_rfl
theorem nm_55 (v : Value) (W : World) : (Instr.typeAssert (.iface 108 v) 39 33 true).run Tryz.prog W = .ok (.tuple #[.iface 108 v, .bool true]) W := by kernel_rfl

theorem nm_any (d p t g : ByteArray) (hp : p.toList.isEmpty = false) : ∃ T v, refV d p t g = .iface T v ∧ ∀ W : World, (Instr.typeAssert (.iface T v) 39 33 true).run Tryz.prog W = .ok (.tuple #[.iface T v, .bool true]) W := by
 unfold refV
 rw [if_neg (by rw [hp]; simp)]
 split
 ·split
  ·exact ⟨_, _, rfl, nm_50 _⟩
  ·exact ⟨_, _, rfl, nm_96 _⟩
 ·split
  ·exact ⟨_, _, rfl, nm_98 _⟩
  ·exact ⟨_, _, rfl, nm_55 _⟩

structure NormAt (s d r p t g : ByteArray) : Prop where
 cut : nats s = nats d ++ 47 :: nats r
 takes : takesF (nats d) = true
 old : nats d ≠ oldL
 hub : nats d = hubL → 47 ∈ nats r
 rem : RemOk (nats r)
 grp : ∃ n, RG s n t g ∧ NG n d p
 few : p.size ≤ 255
 dig : nats g ≠ [] → ∃ k, DG g k

theorem NormAt.plain {s d r p t g : ByteArray} (h : NormAt s d r p t g) : Plain s := by
 obtain ⟨n, hr, _⟩ := h.grp
 exact plain_nats hr.lt

theorem NormAt.noId {s d r p t g : ByteArray} (h : NormAt s d r p t g) : ¬ (s.size = 64 ∧ HexAll s) := by
 rintro ⟨_, hx⟩
 have hm : 47 ∈ nats s := by rw [h.cut]; simp
 obtain ⟨i, hi, he⟩ := List.getElem_of_mem hm
 rw [nats_length] at hi
 have h1 := nats_at s i hi
 rw [List.getD_eq_getElem?_getD, List.getElem?_eq_getElem (by rw [nats_length]; exact hi), he] at h1
 have h2 := hx i hi
 rw [← h1] at h2
 exact absurd h2 (by decide)

set_option maxRecDepth 100000 in
set_option maxHeartbeats 4000000 in
theorem pnorm_any {s d r p t g : ByteArray} (h : NormAt s d r p t g) (hpe : p.toList.isEmpty = false) (hs : s.size < 8000000000) (w : World)
  (hG0 : w.cell? ⟨10, 0, none⟩ = some (.int .i64 128)) (hG1 : w.cell? ⟨10, 1, none⟩ = some (.int .i64 512)) (hGl : 10 < w.heap.size) :
  Calls Tryz.prog 15 #[.string s] w fun e w' => e = .returned (.tuple #[refV d p t g, .nilIface]) ∧ ∃ y : Ext w, w' = y.now := by
 obtain ⟨T, v, hTv, hAs⟩ := nm_any d p t g hpe
 have hl := congrArg List.length h.cut
 rw [nats_length, List.length_append, List.length_cons, nats_length, nats_length] at hl
 have hcat : d ++ ⟨#[47]⟩ ++ r = s := nats_inj (by rw [nats_append, nats_append, h.cut]; simp [nats])
 have hpr : Plain r := plain_nats fun x hx => nats_plain h.plain x (by rw [h.cut]; simp [hx])
 have hne : h.plain = h.plain := rfl
 have H1 := Lib.hid (fun (R O G rb : Nat) (W : World) (ho : OnceR W R O G rb 64 idRuns 70) => id_no ho h.plain (by omega) h.noId)
 have H2 := Lib.hid (fun W : World => split_any h.cut h.takes h.old h.hub hs h.plain W)
 have H3 := Lib.hid (fun W : World => irune_lit r 58 58 rfl hpr (by omega) (by omega) W)
 have H5 : ∀ (y1 : Ext w) (y2 : Ext y1.now) (y3 : Ext y2.now) (y4 : Ext y3.now) (y5 : Ext y4.now), Calls Tryz.prog 31 #[.string (d ++ ⟨#[47]⟩ ++ r)] y5.now fun e w' => e = .returned (.tuple #[.iface T v, .nilIface]) ∧ ∃ y : Ext y5.now, w' = y.now := fun y1 y2 y3 y4 y5 => by
  obtain ⟨n, hr, hn⟩ := h.grp
  rw [hcat, ← hTv]
  exact rparse_any hr hn h.few h.dig (by omega) y5.now ((((((y1.trans y2).trans y3).trans y4).trans y5).cell 10 0 hGl).trans hG0) ((((((y1.trans y2).trans y3).trans y4).trans y5).cell 10 1 hGl).trans hG1) (((((y1.trans y2).trans y3).trans y4).trans y5).lt 10 hGl)
 have H5 := Lib.hid H5
 have b1 : ¬ 9223372036854775807 < d.size + 1 := by omega
 have b2 : ¬ 9223372036854775807 < d.size + 1 + r.size := by omega
 rw [hTv]
 have HAS := Lib.hid hAs
 obtain ⟨a, h58, hlow, hra⟩ := h.rem
 clear hAs hG0 hG1 hGl hcat hTv
 rcases hra with hra | ⟨b, hra⟩
 ·have e1 : firstF 58 (nats r) = -1 := by
   rcases firstF_split 58 (nats r) with ⟨e, _⟩ | ⟨x, y, hxy, _, _⟩
   ·exact e
   ·exact absurd (by rw [← hra, hxy]; simp) h58
  rw [e1] at H3
  have H4 := Lib.hid (fun W : World => lower_any r hpr (by omega) W)
  have Q := Lib.hid (fun (t : ByteArray) (ht : nats t = (nats r).map lowc) => show (t.toList == r.toList) = true by
   rw [beq_nats, ht]
   refine decide_eq_true ?_
   rw [hra]
   conv => rhs; rw [← List.map_id a]
   exact List.map_congr_left fun x hx => (hlow x hx).1)
  clear h hpr hlow hra h58 hne
  have as1 := HAS.out
  go_enter Tryz.func15, Tryz.ntmps15
  go_wp2_with (first | (go_at_call 25; (with_reducible refine (idn_any _).mono ?_); rintro e w1 ⟨R, O, G, rb, rfl, ho, y1, rfl⟩) | (go_at_call 26; (with_reducible refine (H1.out _ _ _ _ _ ho).mono ?_); rintro e w1 ⟨rfl, y2, rfl⟩) | (go_at_call 28; (with_reducible refine (H2.out _).mono ?_); rintro e w1 ⟨rfl, y3, rfl⟩) | (go_at_call 29; (with_reducible refine (H3.out _).mono ?_); rintro e w1 ⟨rfl, y4, rfl⟩) | (go_at_call 30; (with_reducible refine (H4.out _).mono ?_); rintro e w1 ⟨u, rfl, hu, y5, rfl⟩; have q := Q.out u hu) | (go_at_call 31; (with_reducible refine (H5.out y1 y2 y3 y4 y5).mono ?_); rintro e w1 ⟨rfl, y6, rfl⟩))
  go_ret2
  exact ⟨rfl, ((((y1.trans y2).trans y3).trans y4).trans y5).trans y6, rfl⟩
 ·have e1 : firstF 58 (nats r) = a.length := by rw [hra]; exact firstF_app h58
  rw [e1] at H3
  have hal : a.length ≤ r.size := by
   have := congrArg List.length hra
   rw [nats_length, List.length_append] at this
   omega
  have hq : nats (r.extract 0 a.length) = a := by rw [nats_take, hra, List.take_left]
  have H4 := Lib.hid (fun W : World => lower_any (r.extract 0 a.length) (plain_nats (by rw [hq]; exact fun x hx => (hlow x hx).2)) (by rw [← nats_length, hq]; omega) W)
  have Q := Lib.hid (fun (t : ByteArray) (ht : nats t = (nats (r.extract 0 a.length)).map lowc) => show (t.toList == (r.extract 0 a.length).toList) = true by
   rw [beq_nats, ht, hq]
   refine decide_eq_true ?_
   conv => rhs; rw [← List.map_id a]
   exact List.map_congr_left fun x hx => (hlow x hx).1)
  have p0 : ¬ ((a.length : Nat) : Int) ≤ -1 := by omega
  have p1 : (-1 : Int) < ((a.length : Nat) : Int) := by omega
  have p2 : ((a.length : Nat) : Int) ≤ (r.size : Int) := by omega
  have p3 : (0 : Int) ≤ ((a.length : Nat) : Int) := by omega
  have p4 : ((a.length : Nat) : Int) > (-1 : Int) := by omega
  clear h hpr hlow hra h58 hq hne e1
  have as1 := HAS.out
  go_enter Tryz.func15, Tryz.ntmps15
  go_wp2_with (first | (go_at_call 25; (with_reducible refine (idn_any _).mono ?_); rintro e w1 ⟨R, O, G, rb, rfl, ho, y1, rfl⟩) | (go_at_call 26; (with_reducible refine (H1.out _ _ _ _ _ ho).mono ?_); rintro e w1 ⟨rfl, y2, rfl⟩) | (go_at_call 28; (with_reducible refine (H2.out _).mono ?_); rintro e w1 ⟨rfl, y3, rfl⟩) | (go_at_call 29; (with_reducible refine (H3.out _).mono ?_); rintro e w1 ⟨rfl, y4, rfl⟩) | (go_at_call 30; (with_reducible refine (H4.out _).mono ?_); rintro e w1 ⟨u, rfl, hu, y5, rfl⟩; have q := Q.out u hu) | (go_at_call 31; (with_reducible refine (H5.out y1 y2 y3 y4 y5).mono ?_); rintro e w1 ⟨rfl, y6, rfl⟩))
  go_ret2
  exact ⟨rfl, ((((y1.trans y2).trans y3).trans y4).trans y5).trans y6, rfl⟩

end Go.Proofs.YtkbmigfkclnlaaaGreatDoor
namespace Go.Proofs.YtkbmigfkclnlaaaGreatDoor
open Go.RowKit Go.Rx
attribute [local go_sem] Ext.cell Ext.frozen Ext.lt Ext.lt_add Ext.cell2 Ext.frozen2

theorem eq_parts (d p t g d' p' t' g' : ByteArray) (W : World) : (binOp .eql 23 (rv d' p' t' g') (rv d p t g)).run Tryz.prog W = .ok (.bool (decide (nats d' = nats d ∧ nats p' = nats p ∧ nats t' = nats t ∧ nats g' = nats g))) W := by
 simp only [rv, binOp]
 simp [Op.equal, Op.maxDepth, go_sem]
 have e : ∀ a b : ByteArray, (a.toList = b.toList) ↔ (nats a = nats b) := fun a b => by
  have := beq_nats a b
  constructor
  ·intro h
   rw [h] at this
   simpa using this.symm
  ·intro h
   rw [decide_eq_true h] at this
   simpa using this
 simp only [e]
 by_cases h1 : nats d' = nats d <;> by_cases h2 : nats p' = nats p <;> by_cases h3 : nats t' = nats t <;> by_cases h4 : nats g' = nats g <;> simp [h1, h2, h3, h4]

theorem good_any (d p t g : ByteArray) (hs : d.size + p.size + t.size + g.size ≤ 9000000000) (w : World) :
  Calls Tryz.prog 5 #[rv d p t g] w fun e w' => ∃ b : Bool, e = .returned (.bool b) ∧ (b = true → PG (specText d p t g) d p t g) ∧ ∃ y : Ext w, w' = y.now := by
 have hz := specText_size d p t g
 have H1 := Lib.hid (fun W : World => specText_any d p t g W (by omega))
 have H2 := Lib.hid (fun W : World => parse_any (specText d p t g) W (by omega))
 clear hz
 obtain ⟨S, hS⟩ : ∃ S, S = specText d p t g := ⟨_, rfl⟩
 rw [← hS] at H1 H2 ⊢
 clear hS
 go_enter Tryz.func5, Tryz.ntmps5
 go_wp2_with (first | (go_at_call 12; (with_reducible refine (H1.out _).mono ?_); rintro e w1 ⟨rfl, y1, rfl⟩) | (go_at_call 11; (with_reducible refine (H2.out _).mono ?_); rintro e w2 ⟨d', p', t', g', n, rfl, hpg, y2, rfl⟩; have q1 := eq_parts d p t g d' p' t' g'; have z1 : w.heap.size < y2.now.heap.size := (by have a := y1.le; have b := y2.le; simp at a; omega); have z2 : ¬ w.heap.size = y2.now.heap.size := (by omega)))
 ·go_ret
  refine ⟨_, rfl, fun h => ?_, ext_alloc (Ext.viab y1 y2) _⟩
  simp only [Bool.and_eq_true, decide_eq_true_eq] at h
  obtain ⟨h1, h2, h3, h4⟩ := h
  rw [← nats_inj h1, ← nats_inj h2, ← nats_inj h3, ← nats_inj h4]
  exact hpg (by assumption)
 ·go_ret
  exact ⟨false, rfl, fun h => by simp at h, ext_alloc (Ext.viab y1 y2) _⟩

theorem PG.path {s d p t g : ByteArray} (h : PG s d p t g) : p.toList.isEmpty = false := by
 obtain ⟨n, _, hn⟩ := h.grp
 rw [empty_nats]
 refine decide_eq_false fun e => ?_
 have hP : Path (nats p) := by
  rcases hn with ⟨_, _, h3⟩ | ⟨_, rfl, h3, _⟩ <;> exact h3
 rw [e, path_iff] at hP
 have := hP [] (by simp [pieces])
 simp [compF] at this

theorem PG.tagSize {s d p t g : ByteArray} (h : PG s d p t g) : t.size ≤ 128 := by
 obtain ⟨n, hr, _⟩ := h.grp
 by_cases ht : nats t = []
 ·rw [← nats_length, ht]; simp
 ·rw [← nats_length]
  exact ((tag_iff _).1 (hr.tag ht)).1

end Go.Proofs.YtkbmigfkclnlaaaGreatDoor
namespace Go.Proofs.YtkbmigfkclnlaaaGreatDoor
open Go.RowKit Go.Rx
attribute [local go_sem] Ext.cell Ext.frozen Ext.lt Ext.lt_add Ext.cell2 Ext.frozen2

set_option maxRecDepth 100000 in
set_option maxHeartbeats 2000000 in
theorem rnorm_any {s d r p t g : ByteArray} (h : NormAt s d r p t g) (hpe : p.toList.isEmpty = false) (hs : s.size < 8000000000) (w : World)
  (hG0 : w.cell? ⟨10, 0, none⟩ = some (.int .i64 128)) (hG1 : w.cell? ⟨10, 1, none⟩ = some (.int .i64 512)) (hGl : 10 < w.heap.size) :
  Calls Tryz.prog 8 #[.string s] w fun e w' => e = .returned (.tuple #[rv d p t g, .int .i64 0]) ∧ ∃ y : Ext w, w' = y.now := by
 have k0 := Chg.alloc w (Obj.cells #[Value.string ⟨#[]⟩, Value.string ⟨#[]⟩, Value.string ⟨#[]⟩, Value.string ⟨#[]⟩] 23)
 have H1 := Lib.hid (pnorm_any h hpe hs (w.alloc (Obj.cells #[Value.string ⟨#[]⟩, Value.string ⟨#[]⟩, Value.string ⟨#[]⟩, Value.string ⟨#[]⟩] 23)) ((World.cell?_of_block (k0.block 10 hGl (by simp))).trans hG0) ((World.cell?_of_block (k0.block 10 hGl (by simp))).trans hG1) (Nat.lt_of_lt_of_le hGl k0.size))
 have H2 := Lib.hid (fun W : World => told_any d p t g hpe W)
 obtain ⟨V, hV⟩ : ∃ V, V = refV d p t g := ⟨_, rfl⟩
 rw [← hV] at H1 H2
 clear hV h k0
 go_enter Tryz.func8, Tryz.ntmps8
 go_wp2_with (first | (go_at_call 15; (with_reducible refine H1.out.mono ?_); rintro e w1 ⟨rfl, y1, rfl⟩) | (go_at_call 14; (with_reducible refine (H2.out _).mono ?_); rintro e w1 ⟨rfl, y2, rfl⟩))
 exact bodyPost_ret (ret_rp (y1.trans y2) d p t g 0 _ rfl rfl).1 rfl ⟨rfl, (ret_rp (y1.trans y2) d p t g 0 #[undef, undef, .pointer (some ⟨w.heap.size, 0, none⟩), .int .i64 0] rfl rfl).2⟩

set_option maxRecDepth 100000 in
set_option maxHeartbeats 2000000 in
theorem pnamed_any {d r p t g : ByteArray} (h : NormAt (specText d p t g) d r p t g) (hpe : p.toList.isEmpty = false) (hs : (specText d p t g).size < 8000000000) (hsz : d.size + p.size + t.size + g.size ≤ 10000000000) (w : World)
  (hG0 : w.cell? ⟨10, 0, none⟩ = some (.int .i64 128)) (hG1 : w.cell? ⟨10, 1, none⟩ = some (.int .i64 512)) (hGl : 10 < w.heap.size) :
  Calls Tryz.prog 17 #[.string (specText d p t g)] w fun e w' => e = .returned (.tuple #[refV d p t g, .nilIface]) ∧ ∃ y : Ext w, w' = y.now := by
 have H := pnorm_any h hpe hs w hG0 hG1 hGl
 have hpn : ¬ p.toList.isEmpty = true := by rw [hpe]; simp
 obtain ⟨S, hS⟩ : ∃ S, S = specText d p t g := ⟨_, rfl⟩
 rw [← hS] at H ⊢
 unfold refV at H ⊢
 unfold specText at hS
 clear h hs hG0 hG1 hGl
 rw [if_neg hpn] at H hS ⊢
 have hbe : ∀ X : ByteArray, S = X → (X.toList == S.toList) = true := fun X e => by rw [e]; exact beq_self_eq_true _
 by_cases ht : t.toList.isEmpty = true
 ·rw [if_pos ht] at H hS ⊢
  by_cases hg : g.toList.isEmpty = true
  ·rw [if_pos hg] at H hS ⊢
   have q := hbe _ hS
   have HH := Lib.hid H
   clear H ht hg hpn hpe hbe hS
   go_enter Tryz.func17, Tryz.ntmps17
   go_wp2_with (first | (go_at_call 15; (with_reducible refine HH.out.mono ?_); rintro e w1 ⟨rfl, y1, rfl⟩) | (go_at_call 147; (with_reducible refine (repoString_any d p _ (by omega)).mono ?_); rintro e w2 ⟨rfl, y2, rfl⟩))
   go_ret2
   exact ⟨rfl, Ext.both y1 y2⟩
  ·rw [if_neg hg] at H hS ⊢
   have q := hbe (nm d p ++ ⟨#[64]⟩ ++ g) (by rw [hS, ByteArray.append_assoc])
   have HH := Lib.hid H
   clear H ht hg hpn hpe hbe hS
   go_enter Tryz.func17, Tryz.ntmps17
   go_wp2_with (first | (go_at_call 15; (with_reducible refine HH.out.mono ?_); rintro e w1 ⟨rfl, y1, rfl⟩) | (go_at_call 154; (with_reducible refine (crString_any d p g _ (by omega)).mono ?_); rintro e w2 ⟨rfl, y2, rfl⟩))
   go_ret2
   exact ⟨rfl, Ext.both y1 y2⟩
 ·rw [if_neg ht] at H hS ⊢
  by_cases hg : g.toList.isEmpty = true
  ·rw [if_pos hg] at H hS ⊢
   have q := hbe (nm d p ++ ⟨#[58]⟩ ++ t) (by rw [hS, ByteArray.append_assoc])
   have HH := Lib.hid H
   clear H ht hg hpn hpe hbe hS
   go_enter Tryz.func17, Tryz.ntmps17
   go_wp2_with (first | (go_at_call 15; (with_reducible refine HH.out.mono ?_); rintro e w1 ⟨rfl, y1, rfl⟩) | (go_at_call 155; (with_reducible refine (trString_any d p t _ (by omega)).mono ?_); rintro e w2 ⟨rfl, y2, rfl⟩))
   go_ret2
   exact ⟨rfl, Ext.both y1 y2⟩
  ·rw [if_neg hg] at H hS ⊢
   have q := hbe (nm d p ++ ⟨#[58]⟩ ++ t ++ ⟨#[64]⟩ ++ g) (by rw [hS]; simp [ByteArray.append_assoc])
   have HH := Lib.hid H
   clear H ht hg hpn hpe hbe hS
   go_enter Tryz.func17, Tryz.ntmps17
   go_wp2_with (first | (go_at_call 15; (with_reducible refine HH.out.mono ?_); rintro e w1 ⟨rfl, y1, rfl⟩) | (go_at_call 149; (with_reducible refine (rfString_any d p t g _ (by omega)).mono ?_); rintro e w2 ⟨rfl, y2, rfl⟩))
   go_ret2
   exact ⟨rfl, Ext.both y1 y2⟩

theorem same_results (tmps : Array Value) : results Tryz.f10 tmps = results Tryz.f8 tmps := by kernel_rfl

set_option maxRecDepth 100000 in
set_option maxHeartbeats 2000000 in
theorem rnamed_any {d r p t g : ByteArray} (h : NormAt (specText d p t g) d r p t g) (hpe : p.toList.isEmpty = false) (hs : (specText d p t g).size < 8000000000) (hsz : d.size + p.size + t.size + g.size ≤ 10000000000) (w : World)
  (hG0 : w.cell? ⟨10, 0, none⟩ = some (.int .i64 128)) (hG1 : w.cell? ⟨10, 1, none⟩ = some (.int .i64 512)) (hGl : 10 < w.heap.size) :
  Calls Tryz.prog 10 #[.string (specText d p t g)] w fun e w' => e = .returned (.tuple #[rv d p t g, .int .i64 0]) ∧ ∃ y : Ext w, w' = y.now := by
 have k0 := Chg.alloc w (Obj.cells #[Value.string ⟨#[]⟩, Value.string ⟨#[]⟩, Value.string ⟨#[]⟩, Value.string ⟨#[]⟩] 23)
 have H1 := Lib.hid (pnamed_any h hpe hs hsz (w.alloc (Obj.cells #[Value.string ⟨#[]⟩, Value.string ⟨#[]⟩, Value.string ⟨#[]⟩, Value.string ⟨#[]⟩] 23)) ((World.cell?_of_block (k0.block 10 hGl (by simp))).trans hG0) ((World.cell?_of_block (k0.block 10 hGl (by simp))).trans hG1) (Nat.lt_of_lt_of_le hGl k0.size))
 have H2 := Lib.hid (fun W : World => told_any d p t g hpe W)
 obtain ⟨V, hV⟩ : ∃ V, V = refV d p t g := ⟨_, rfl⟩
 obtain ⟨S, hS⟩ : ∃ S, S = specText d p t g := ⟨_, rfl⟩
 rw [← hV] at H1 H2
 rw [← hS] at H1 ⊢
 clear hV hS h k0 hs
 go_enter Tryz.func10, Tryz.ntmps10
 go_wp2_with (first | (go_at_call 17; (with_reducible refine H1.out.mono ?_); rintro e w1 ⟨rfl, y1, rfl⟩) | (go_at_call 14; (with_reducible refine (H2.out _).mono ?_); rintro e w1 ⟨rfl, y2, rfl⟩))
 exact bodyPost_ret (by rw [same_results]; exact (ret_rp (y1.trans y2) d p t g 0 _ rfl rfl).1) rfl ⟨rfl, (ret_rp (y1.trans y2) d p t g 0 #[undef, undef, .pointer (some ⟨w.heap.size, 0, none⟩), .int .i64 0] rfl rfl).2⟩

end Go.Proofs.YtkbmigfkclnlaaaGreatDoor
namespace Go.Proofs.YtkbmigfkclnlaaaGreatDoor
open Go.RowKit Go.Rx
attribute [local go_sem] Ext.cell Ext.frozen Ext.lt Ext.lt_add Ext.cell2 Ext.frozen2

theorem PG.norm {d p t g : ByteArray} (h : PG (specText d p t g) d p t g) (ht : takesF (nats d) = true) (ho : nats d ≠ oldL) (hh : nats d = hubL → 0 ≤ firstF 47 (nats p)) : ∃ r, NormAt (specText d p t g) d r p t g := by
 obtain ⟨hne, h47⟩ := takes_ne ht
 have hw := h.whole hne
 have hcat : nats ((specText d p t g).extract (d.size + 1) (specText d p t g).size) = nats p ++ (tagPart (optN t) ++ digPart (optN g)) := by
  rw [nats_drop, hw, ← nats_length d, ← List.drop_drop, List.drop_left]
  rfl
 refine ⟨_, ⟨by rw [hcat]; exact hw, ht, ho, fun e => ?_, by rw [hcat]; exact h.rem, h.grp, h.few, h.dig⟩⟩
 rw [hcat]
 exact List.mem_append_left _ ((firstF_in 47 _).1 (hh e))

set_option maxRecDepth 100000 in
set_option maxHeartbeats 4000000 in
theorem law_any (d p t g : ByteArray) (w : World) (hG0 : w.cell? ⟨10, 0, none⟩ = some (.int .i64 128)) (hG1 : w.cell? ⟨10, 1, none⟩ = some (.int .i64 512)) (hGl : 10 < w.heap.size) :
  Calls Tryz.prog 3 #[rv d p t g] w fun e w' => e = .returned (.bool true) ∧ ∃ y : Ext w, w' = y.now := by
 have H1 := Lib.hid (fun W : World => fits_any d p t g W)
 cases hf : fitsB d p t g with
 | false =>
  rw [hf] at H1
  clear hf
  go_enter Tryz.func3, Tryz.ntmps3
  go_wp2_with (first | (go_at_call 4; (with_reducible refine (H1.out _).mono ?_); rintro e w1 ⟨rfl, y1, rfl⟩))
  go_ret
  exact ⟨rfl, Ext.via y1⟩
 | true =>
  rw [hf] at H1
  have hsz : d.size ≤ 2147483647 ∧ p.size ≤ 2147483647 ∧ t.size ≤ 2147483647 ∧ g.size ≤ 2147483647 := by
   simp only [fitsB, Bool.and_eq_true, decide_eq_true_eq] at hf
   omega
  have H2 := Lib.hid (fun W : World => good_any d p t g (by omega) W)
  have H3 := Lib.hid (fun W : World => takes_any d W (by omega))
  have H4 := Lib.hid (fun W : World => first_lit p 47 47 rfl W (by omega))
  clear hf
  have k0 := Chg.alloc w (Obj.cells #[Value.string d, Value.string p, Value.string t, Value.string g] 23)
  have a0 : (w.alloc (Obj.cells #[Value.string d, Value.string p, Value.string t, Value.string g] 23)).cell? ⟨10, 0, none⟩ = some (.int .i64 128) := (World.cell?_of_block (k0.block 10 hGl (by simp))).trans hG0
  have a1 : (w.alloc (Obj.cells #[Value.string d, Value.string p, Value.string t, Value.string g] 23)).cell? ⟨10, 1, none⟩ = some (.int .i64 512) := (World.cell?_of_block (k0.block 10 hGl (by simp))).trans hG1
  have al : 10 < (w.alloc (Obj.cells #[Value.string d, Value.string p, Value.string t, Value.string g] 23)).heap.size := Nat.lt_of_lt_of_le hGl k0.size
  have A0 := Lib.hid a0
  have A1 := Lib.hid a1
  have AL := Lib.hid al
  clear a0 a1 al k0
  have q2 : (d.toList == [105, 110, 100, 101, 120, 46, 100, 111, 99, 107, 101, 114, 46, 105, 111]) = decide (nats d = oldL) := lit_nats d [105, 110, 100, 101, 120, 46, 100, 111, 99, 107, 101, 114, 46, 105, 111]
  have q3 : (d.toList == [100, 111, 99, 107, 101, 114, 46, 105, 111]) = decide (nats d = hubL) := lit_nats d [100, 111, 99, 107, 101, 114, 46, 105, 111]
  go_enter Tryz.func3, Tryz.ntmps3
  go_wp2_with (first | (go_at_call 4; (with_reducible refine (H1.out _).mono ?_); rintro e w1 ⟨rfl, y1, rfl⟩))
  go_at_call 5
  with_reducible refine (H2.out _).mono ?_
  rintro e w2 ⟨b, rfl, hb, y2, rfl⟩
  cases b with
  | false =>
   clear hb
   go_wp2_with fail
   go_ret
   exact ⟨rfl, Ext.viab y1 y2⟩
  | true =>
   have hpg := hb rfl
   clear hb
   have hN := hpg.norm
   cases ht : takesF (nats d) with
   | false =>
    rw [ht] at H3
    clear hN hpg
    go_wp2_with (first | (go_at_call 6; (with_reducible refine (H3.out _).mono ?_); rintro e w3 ⟨rfl, y3, rfl⟩))
    go_ret
    exact ⟨rfl, ((Ext.one _ _).trans y1).trans (y2.trans y3), rfl⟩
   | true =>
    rw [ht] at H3
    by_cases ho : nats d = oldL
    ·rw [decide_eq_true ho] at q2
     clear hN hpg
     go_wp2_with (first | (go_at_call 6; (with_reducible refine (H3.out _).mono ?_); rintro e w3 ⟨rfl, y3, rfl⟩))
     go_ret
     exact ⟨rfl, ((Ext.one _ _).trans y1).trans (y2.trans y3), rfl⟩
    ·rw [decide_eq_false ho] at q2
     by_cases hc : nats d = hubL ∧ firstF 47 (nats p) < 0
     ·rw [decide_eq_true hc.1] at q3
      have hf0 := hc.2
      clear hN hpg
      go_wp2_with (first | (go_at_call 6; (with_reducible refine (H3.out _).mono ?_); rintro e w3 ⟨rfl, y3, rfl⟩) | (go_at_call 7; (with_reducible refine (H4.out _).mono ?_); rintro e w4 ⟨rfl, rfl⟩))
      go_ret
      exact ⟨rfl, ((Ext.one _ _).trans y1).trans (y2.trans y3), rfl⟩
     ·obtain ⟨r, hR⟩ := hN ht ho (fun e => by
       by_cases h0 : firstF 47 (nats p) < 0
       ·exact absurd ⟨e, h0⟩ hc
       ·omega)
      have hpe := hpg.path
      have hts := hpg.tagSize
      have hps := hpg.few
      have hss := specText_size d p t g
      have hbig : (specText d p t g).size < 8000000000 := by omega
      have H5 := Lib.hid (fun W : World => text_any d p t g hpe (by omega) W)
      have H6 := Lib.hid (fun (y3 : Ext y2.now) (y4 : Ext y3.now) => rnorm_any hR hpe hbig y4.now (((((y1.trans y2).trans y3).trans y4).cell 10 0 AL.out).trans A0.out) (((((y1.trans y2).trans y3).trans y4).cell 10 1 AL.out).trans A1.out) ((((y1.trans y2).trans y3).trans y4).lt 10 AL.out))
      have H7 := Lib.hid (fun (W : World) a b c => rnamed_any hR hpe hbig (by omega) W a b c)
      obtain ⟨S, hS⟩ : ∃ S, S = specText d p t g := ⟨_, rfl⟩
      rw [← hS] at H5 H6 H7
      have q1 := eq_parts d p t g d p t g
      simp only [and_self, decide_true] at q1
      have hcase : (nats d = hubL ∧ ¬ firstF 47 (nats p) < 0) ∨ ¬ nats d = hubL := by
       by_cases e : nats d = hubL
       ·exact .inl ⟨e, fun h => hc ⟨e, h⟩⟩
       ·exact .inr e
      clear hR hpg hN hpe hS hbig hss hts hps ho hc
      rcases hcase with ⟨he, hf0⟩ | he
      ·rw [decide_eq_true he] at q3
       clear he
       go_wp2_with (first | (go_at_call 6; (with_reducible refine (H3.out _).mono ?_); rintro e w3 ⟨rfl, y3, rfl⟩) | (go_at_call 7; (with_reducible refine (H4.out _).mono ?_); rintro e w4 ⟨rfl, rfl⟩) | (go_at_call 9; (with_reducible refine (H5.out y3.now).mono ?_); rintro e w4 ⟨rfl, y4, rfl⟩) | (go_at_call 8; (with_reducible refine (H6.out y3 y4).mono ?_); rintro e w5 ⟨rfl, y5, rfl⟩; have z1 : w.heap.size < y5.now.heap.size := (by have a := y1.le; have b := y2.le; have c := y3.le; have d := y4.le; have e := y5.le; simp at a; omega); have z2 : ¬ w.heap.size = y5.now.heap.size := (by omega); have c0 : y5.now.cell? ⟨w.heap.size, 0, none⟩ = some (.string d) := ((((((y1.trans y2).trans y3).trans y4).trans y5).cell w.heap.size 0 (by simp)).trans (by simp)); have c1 : y5.now.cell? ⟨w.heap.size, 1, none⟩ = some (.string p) := ((((((y1.trans y2).trans y3).trans y4).trans y5).cell w.heap.size 1 (by simp)).trans (by simp)); have c2 : y5.now.cell? ⟨w.heap.size, 2, none⟩ = some (.string t) := ((((((y1.trans y2).trans y3).trans y4).trans y5).cell w.heap.size 2 (by simp)).trans (by simp)); have c3 : y5.now.cell? ⟨w.heap.size, 3, none⟩ = some (.string g) := ((((((y1.trans y2).trans y3).trans y4).trans y5).cell w.heap.size 3 (by simp)).trans (by simp))))
       go_at_call 9
       with_reducible refine (H5.out _).mono ?_
       rintro e w6 ⟨rfl, y6, rfl⟩
       have HN := Lib.hid (H7.out y6.now (((((((y1.trans y2).trans y3).trans y4).trans y5).trans ((Ext.one _ _).trans y6)).cell 10 0 AL.out).trans A0.out) (((((((y1.trans y2).trans y3).trans y4).trans y5).trans ((Ext.one _ _).trans y6)).cell 10 1 AL.out).trans A1.out) ((((((y1.trans y2).trans y3).trans y4).trans y5).trans ((Ext.one _ _).trans y6)).lt 10 AL.out))
       have k1 : y5.now.heap.size < y6.now.heap.size := by have a := y6.le; simp at a; omega
       have b0 : y6.now.cell? ⟨w.heap.size, 0, none⟩ = some (.string d) := (((Ext.one _ _).trans y6).cell w.heap.size 0 z1).trans c0
       have b1 : y6.now.cell? ⟨w.heap.size, 1, none⟩ = some (.string p) := (((Ext.one _ _).trans y6).cell w.heap.size 1 z1).trans c1
       have b2 : y6.now.cell? ⟨w.heap.size, 2, none⟩ = some (.string t) := (((Ext.one _ _).trans y6).cell w.heap.size 2 z1).trans c2
       have b3 : y6.now.cell? ⟨w.heap.size, 3, none⟩ = some (.string g) := (((Ext.one _ _).trans y6).cell w.heap.size 3 z1).trans c3
       have m0 : y6.now.cell? ⟨y5.now.heap.size, 0, none⟩ = some (.string d) := (y6.cell y5.now.heap.size 0 (by simp)).trans (by simp)
       have m1 : y6.now.cell? ⟨y5.now.heap.size, 1, none⟩ = some (.string p) := (y6.cell y5.now.heap.size 1 (by simp)).trans (by simp)
       have m2 : y6.now.cell? ⟨y5.now.heap.size, 2, none⟩ = some (.string t) := (y6.cell y5.now.heap.size 2 (by simp)).trans (by simp)
       have m3 : y6.now.cell? ⟨y5.now.heap.size, 3, none⟩ = some (.string g) := (y6.cell y5.now.heap.size 3 (by simp)).trans (by simp)
       have z3 : w.heap.size < y6.now.heap.size := by omega
       clear H1 H2 H3 H4 H5 H6 H7 c0 c1 c2 c3 z1 z2 q2 q3
       go_wp2_with (first | (go_at_call 10; (with_reducible refine HN.out.mono ?_); rintro e w7 ⟨rfl, y7, rfl⟩; have k2 := y7.le; have z4 : w.heap.size < y7.now.heap.size := (by omega); have z5 : ¬ w.heap.size = y7.now.heap.size := (by omega); have z6 : y5.now.heap.size < y7.now.heap.size := (by omega); have z7 : ¬ y5.now.heap.size = y7.now.heap.size := (by omega); clear k2))
       go_ret
       exact ⟨rfl, ext_alloc ⟨(((Ext.one w _).trans ((((y1.trans y2).trans y3).trans y4).trans y5)).trans ((Ext.one _ _).trans y6)).trans y7, rfl⟩ _⟩
      ·rw [decide_eq_false he] at q3
       clear he
       go_wp2_with (first | (go_at_call 6; (with_reducible refine (H3.out _).mono ?_); rintro e w3 ⟨rfl, y3, rfl⟩) | (go_at_call 7; (with_reducible refine (H4.out _).mono ?_); rintro e w4 ⟨rfl, rfl⟩) | (go_at_call 9; (with_reducible refine (H5.out y3.now).mono ?_); rintro e w4 ⟨rfl, y4, rfl⟩) | (go_at_call 8; (with_reducible refine (H6.out y3 y4).mono ?_); rintro e w5 ⟨rfl, y5, rfl⟩; have z1 : w.heap.size < y5.now.heap.size := (by have a := y1.le; have b := y2.le; have c := y3.le; have d := y4.le; have e := y5.le; simp at a; omega); have z2 : ¬ w.heap.size = y5.now.heap.size := (by omega); have c0 : y5.now.cell? ⟨w.heap.size, 0, none⟩ = some (.string d) := ((((((y1.trans y2).trans y3).trans y4).trans y5).cell w.heap.size 0 (by simp)).trans (by simp)); have c1 : y5.now.cell? ⟨w.heap.size, 1, none⟩ = some (.string p) := ((((((y1.trans y2).trans y3).trans y4).trans y5).cell w.heap.size 1 (by simp)).trans (by simp)); have c2 : y5.now.cell? ⟨w.heap.size, 2, none⟩ = some (.string t) := ((((((y1.trans y2).trans y3).trans y4).trans y5).cell w.heap.size 2 (by simp)).trans (by simp)); have c3 : y5.now.cell? ⟨w.heap.size, 3, none⟩ = some (.string g) := ((((((y1.trans y2).trans y3).trans y4).trans y5).cell w.heap.size 3 (by simp)).trans (by simp))))
       go_at_call 9
       with_reducible refine (H5.out _).mono ?_
       rintro e w6 ⟨rfl, y6, rfl⟩
       have HN := Lib.hid (H7.out y6.now (((((((y1.trans y2).trans y3).trans y4).trans y5).trans ((Ext.one _ _).trans y6)).cell 10 0 AL.out).trans A0.out) (((((((y1.trans y2).trans y3).trans y4).trans y5).trans ((Ext.one _ _).trans y6)).cell 10 1 AL.out).trans A1.out) ((((((y1.trans y2).trans y3).trans y4).trans y5).trans ((Ext.one _ _).trans y6)).lt 10 AL.out))
       have k1 : y5.now.heap.size < y6.now.heap.size := by have a := y6.le; simp at a; omega
       have b0 : y6.now.cell? ⟨w.heap.size, 0, none⟩ = some (.string d) := (((Ext.one _ _).trans y6).cell w.heap.size 0 z1).trans c0
       have b1 : y6.now.cell? ⟨w.heap.size, 1, none⟩ = some (.string p) := (((Ext.one _ _).trans y6).cell w.heap.size 1 z1).trans c1
       have b2 : y6.now.cell? ⟨w.heap.size, 2, none⟩ = some (.string t) := (((Ext.one _ _).trans y6).cell w.heap.size 2 z1).trans c2
       have b3 : y6.now.cell? ⟨w.heap.size, 3, none⟩ = some (.string g) := (((Ext.one _ _).trans y6).cell w.heap.size 3 z1).trans c3
       have m0 : y6.now.cell? ⟨y5.now.heap.size, 0, none⟩ = some (.string d) := (y6.cell y5.now.heap.size 0 (by simp)).trans (by simp)
       have m1 : y6.now.cell? ⟨y5.now.heap.size, 1, none⟩ = some (.string p) := (y6.cell y5.now.heap.size 1 (by simp)).trans (by simp)
       have m2 : y6.now.cell? ⟨y5.now.heap.size, 2, none⟩ = some (.string t) := (y6.cell y5.now.heap.size 2 (by simp)).trans (by simp)
       have m3 : y6.now.cell? ⟨y5.now.heap.size, 3, none⟩ = some (.string g) := (y6.cell y5.now.heap.size 3 (by simp)).trans (by simp)
       have z3 : w.heap.size < y6.now.heap.size := by omega
       clear H1 H2 H3 H4 H5 H6 H7 c0 c1 c2 c3 z1 z2 q2 q3
       go_wp2_with (first | (go_at_call 10; (with_reducible refine HN.out.mono ?_); rintro e w7 ⟨rfl, y7, rfl⟩; have k2 := y7.le; have z4 : w.heap.size < y7.now.heap.size := (by omega); have z5 : ¬ w.heap.size = y7.now.heap.size := (by omega); have z6 : y5.now.heap.size < y7.now.heap.size := (by omega); have z7 : ¬ y5.now.heap.size = y7.now.heap.size := (by omega); clear k2))
       go_ret
       exact ⟨rfl, ext_alloc ⟨(((Ext.one w _).trans ((((y1.trans y2).trans y3).trans y4).trans y5)).trans ((Ext.one _ _).trans y6)).trans y7, rfl⟩ _⟩

end Go.Proofs.YtkbmigfkclnlaaaGreatDoor
namespace Go.Proofs.YtkbmigfkclnlaaaGreatDoor
open Go.ChangeShapes Go.WideShapes Go.ChangeAt Go.RowKit Go.Joins

theorem own : ownKnob Tryz.prog.godebug = none := by kernel_rfl
theorem cells23 : Tryz.prog.cellsOf 23 = 4 := by kernel_rfl
theorem gTab : Tryz.prog.globalNamed "pub-timebook/pub/regexp.matchSize" = some 10 := by kernel_rfl
theorem gTabType : (Tryz.prog.globals[10]?).map (·.type) = some 213 := by kernel_rfl
theorem cells163 : Tryz.prog.cellsOf 213 = 5 := by kernel_rfl
theorem cells3 : Tryz.prog.cellsOf 3 = 1 := by kernel_rfl

set_option maxRecDepth 1000000 in
theorem table {W : World} (h : laidMet Tryz.prog Rows.fnRefNormalSelfRow.laid W) : Lib.TabIs Tryz.prog W "pub-timebook/pub/regexp.matchSize" .i64 [128, 512, 2048, 16384, 0] :=
 Lib.tabIs_of_head (rest := _) gTab gTabType Tryz.underlying213 Tryz.underlying3 cells3 cells163 h

set_option maxRecDepth 1000000 in
theorem contract (H : Type) (enc : TypeId × Value → H) (W : World) (base : Nat) (args : Array Value) (ds gs : List (DataW H)) (before : List MemPlace)
  (hval : ∀ (j : Nat) t v, Tryz.f3.params[j]? = some t → args[j]? = some v → Value.okWide Tryz.prog W .any base t v)
  (hW : DataW.Whole enc Tryz.prog Tryz.f3.params.toList Rows.fnRefNormalSelfSpec.vars false W args.toList ds gs before) (hL : laidMet Tryz.prog Rows.fnRefNormalSelfRow.laid W) :
  Calls Tryz.prog 3 args W fun e W' => ∃ v, e = .returned v ∧ Rows.fnRefNormalSelfSpec.post enc Tryz.prog Tryz.f3 false true false false W args v W' := by
 have hW' := hW
 obtain ⟨p, q, hA0, hV, rfl, hfz, hnd⟩ := hW
 have hA : DataW.TrodAll enc Tryz.prog W 0 (fun _ => true) true Tryz.f3.params.toList args.toList ds p := hA0
 rw [Tryz.params3] at hA hval
 obtain ⟨v0, d0, rfl, rfl, h0⟩ := trodAll_one hA
 obtain ⟨rfl, rfl⟩ := trodVars_none hV
 obtain ⟨c0, c1, c2, c3, y0, y1, y2, y3, m, rfl, rfl, rfl, hy0, hy1, hy2, hy3⟩ := open_agg4 Tryz.underlying23 (by kernel_rfl) cells23 (hval 0 23 v0 rfl rfl) h0
 obtain ⟨a, e0, rfl, wa⟩ := DataW.trod_string Tryz.underlying9 hy0
 obtain ⟨b, e1, rfl, wb⟩ := DataW.trod_string Tryz.underlying9 hy1
 obtain ⟨c, e2, rfl, wc⟩ := DataW.trod_string Tryz.underlying9 hy2
 obtain ⟨d, e3, rfl, wd⟩ := DataW.trod_string Tryz.underlying9 hy3
 simp at e0 e1 e2 e3
 subst e0 e1 e2 e3
 clear hA0 hval
 simp only [List.append_nil] at hW'
 have g0 : W.cell? ⟨10, 0, none⟩ = some (.int .i64 128) := (table hL).cell gTab 0 (by decide)
 have g1 : W.cell? ⟨10, 1, none⟩ = some (.int .i64 512) := (table hL).cell gTab 1 (by decide)
 have gl : 10 < W.heap.size := World.block_lt_of_cell? _ _ g0
 refine (law_any a b c d W g0 g1 gl).mono fun e W' ⟨he, hw⟩ => ?_
 obtain ⟨x, rfl⟩ := hw
 subst he
 have structReads : ∀ (W' : World) (sp : Nat → Bool), DataW.Trod enc Tryz.prog W' 0 sp true 23 (rv a b c d) (.agg [.lit (.string a.data.toList), .lit (.string b.data.toList), .lit (.string c.data.toList), .lit (.string d.data.toList)]) [] := fun W' sp =>
  shut_agg4 (y0 := (.lit (.string a.data.toList), [])) (y1 := (.lit (.string b.data.toList), [])) (y2 := (.lit (.string c.data.toList), [])) (y3 := (.lit (.string d.data.toList), [])) Tryz.underlying23 (by kernel_rfl) cells23
   ⟨1, by simp [DataW.trod, Tryz.underlying9, wa]⟩ ⟨1, by simp [DataW.trod, Tryz.underlying9, wb]⟩ ⟨1, by simp [DataW.trod, Tryz.underlying9, wc]⟩ ⟨1, by simp [DataW.trod, Tryz.underlying9, wd]⟩
 exact ⟨_, rfl, _, _, _, [], [], [], hW', trodAll_mk1 (shut_bool Tryz.underlying4 _), trodAll_mk1 (structReads _ _), rfl, x.below.frame _, fun h => by cases h⟩

theorem laid_met (os : Os) : laidMet Tryz.prog Rows.fnRefNormalSelfRow.laid ((World.doorLaid Tryz.prog 214 os).forCall (fun _ _ => 0) ⟨#[], #[.agg #[.string ⟨#[]⟩, .string ⟨#[]⟩, .string ⟨#[]⟩, .string ⟨#[]⟩]], []⟩).memory :=
 laidMet_of_run' 8 (by kernel_rfl) (by kernel_rfl)

theorem reads (os : Os) {H : Type} (enc : TypeId × Value → H) : ∃ places, DataW.whole enc Tryz.prog ((World.doorLaid Tryz.prog 214 os).forCall (fun _ _ => 0) ⟨#[], #[.agg #[.string ⟨#[]⟩, .string ⟨#[]⟩, .string ⟨#[]⟩, .string ⟨#[]⟩]], []⟩).memory Tryz.f3.params.toList Rows.fnRefNormalSelfSpec.vars false #[Value.agg #[.string ⟨#[]⟩, .string ⟨#[]⟩, .string ⟨#[]⟩, .string ⟨#[]⟩]].toList 8 = some ([.agg [.lit (.string []), .lit (.string []), .lit (.string []), .lit (.string [])]], [], places) :=
 ⟨[], by kernel_rfl⟩

set_option maxRecDepth 100000 in
theorem lifted (os : Os) (started : os.Started) (H : Type) (enc : TypeId × Value → H) (F : Stop.Interp) :
  ReturnsInHanded {} Tryz.checked os 3 .any ((OpenSpec.ofChange Rows.fnRefNormalSelfSpec).preRow enc Tryz.prog Tryz.f3 Rows.fnRefNormalSelfRow.domain false Rows.fnRefNormalSelfRow.laid) (((OpenSpec.ofChange Rows.fnRefNormalSelfSpec).at F).post enc Tryz.prog Tryz.f3 false true false false) := by
 obtain ⟨places, hx⟩ := reads os enc
 refine returnsInHanded_of_row (C := Tryz.checked) (s := OpenSpec.ofChange Rows.fnRefNormalSelfSpec) own started (by kernel_rfl) Tryz.func3
  (witness_row_atRef (enc := enc) (C := Tryz.checked) false (World.doorLaid Tryz.prog 214 os) #[.agg #[.string ⟨#[]⟩, .string ⟨#[]⟩, .string ⟨#[]⟩, .string ⟨#[]⟩]] rfl (by kernel_rfl) (by kernel_rfl) (by kernel_rfl)
   (OpenSpec.preRow_of_cond 8 hx (by kernel_rfl) (fun k hk => by cases hk) (by kernel_rfl) (laid_met os))) ?_
 intro W base args ds gs before hval hW _ _ _ hL _ _
 exact contract H enc W base args ds gs before hval hW hL

theorem said : Rows.FnRefNormalSelfSaid :=
 OpenClaim.holds_of_cond 3 Tryz.f3 rfl rfl rfl rfl rfl rfl rfl ⟨rfl, rfl, rfl, rfl, rfl⟩ rfl rfl rfl rfl rfl (by kernel_rfl) Tryz.func3 (by kernel_rfl)
  (of_decide_eq_true (by kernel_rfl)) (by unfold Func.isWrapper; first | (rw [if_pos (by decide +kernel)]; kernel_rfl) | (rw [if_neg (by decide +kernel)]; exact ⟨rfl, rfl⟩))
  (fun os started H enc _ F => by rw [OpenClaim.pre_eq_preRow]; exact lifted os started H enc F)

theorem plainRow (f : FuncId) (fn : Func) (hf : Tryz.pinned.checked.prog.funcNamed "pub-timebook/laws.FnRefNormalSelf" = some f) (hfn : Tryz.pinned.checked.prog.funcs[f]? = some fn) :
  true = Tryz.pinned.checked.prog.looks [] ∧ ∀ (j : Nat) t, fn.params[j]? = some t → Tryz.pinned.checked.prog.wantsStandIn t = false := by
 obtain rfl : f = 3 := Option.some.inj ((show Tryz.prog.funcNamed "pub-timebook/laws.FnRefNormalSelf" = some 3 by kernel_rfl).symm.trans hf) |>.symm
 obtain rfl : fn = Tryz.f3 := (Option.some.inj (Tryz.func3.symm.trans hfn)).symm
 refine ⟨by kernel_rfl, fun j t ht => ?_⟩
 rw [Tryz.params3] at ht
 obtain rfl : t = 23 := by simpa using Array.mem_of_getElem? ht
 exact (show Tryz.prog.wantsStandIn 23 = false by kernel_rfl)

theorem card : Rows.FnRefNormalSelfCardSaid :=
 Claim7.holds_tied_plain_at .later [] _ _ _ _ said (fun _ h => by cases h) (by kernel_rfl) (fun _ h => by cases h) fnRefNormalSelf_row_tie rfl ⟨rfl, rfl⟩ (by kernel_rfl) rfl plainRow (by kernel_rfl)

#print axioms card

end Go.Proofs.YtkbmigfkclnlaaaGreatDoor
