/-
FnCronTextAfterRoads: the calendar, the schedules, their texts and the zones, part 21 of 34.
-/
import Derived.Test.YtopcjlimjkfoiaaGreatDoorV20
import Derived.Laws.RangeAny
import Derived.Lib.OthersKept
import Derived.Laws.IdiomStrings
import Derived.Lib.AppendStr
import Derived.Test.YtopcjlimjkfoiaaGreatDoorV05
set_option linter.all false
namespace Go.Proofs.YtopcjlimjkfoiaaGreatDoor
open Go.RowKit
attribute [local go_sem] Ext.cell Ext.frozen Ext.lt Ext.lt_add Ext.cell2 Ext.frozen2

theorem iterPos_of {w : World} {k : Nat} {s : ByteArray} {p : Nat} (h : w.heap[k]? = some (.stringIter s p)) : w.iterPos k = p := by simp [World.iterPos, h]

theorem ownsRow_iterAt {w : World} {base : Nat} {e : TypeId} {size : Nat} {v : Value} {n : Nat} {xs : List Value} (h : w.ownsRow base e size v n xs) {k : Nat} (hk : k < base) (s : ByteArray) (p : Nat) : (w.iterAt k s p).ownsRow base e size v n xs := by
  obtain ⟨h1, h2⟩ := h
  refine ⟨h1, ?_⟩
  rcases h2 with h2 | ⟨g, cap, cur, a, b, c, d⟩
  · exact .inl h2
  · exact .inr ⟨g, cap, cur, a, b, by rw [Lib.iterAt_other _ _ _ _ _ (by omega)]; exact c, d⟩

structure FldAt (w : World) (s : ByteArray) (pos : Nat) (ds : List ByteArray) (v : Value) (wr : World) : Prop where
  it : wr.heap[w.heap.size]? = some (.stringIter s pos)
  own : wr.ownsRow (w.heap.size + 1) 9 1 v ds.length (ds.map Value.string)
  below : Below w.heap.size w wr

theorem FldAt.next {w : World} {s : ByteArray} {pos : Nat} {ds : List ByteArray} {v : Value} {wr : World} (h : FldAt w s pos ds v wr) : FldAt w s (pos + 1) ds v (wr.iterAt w.heap.size s (pos + 1)) :=
  ⟨Lib.iterAt_heap wr w.heap.size s pos (pos + 1) h.it, ownsRow_iterAt h.own (by omega) s (pos + 1), Lib.below_iterAt h.below (Nat.le_refl _) s (pos + 1)⟩

theorem FldAt.app {w : World} {s : ByteArray} {pos : Nat} {ds : List ByteArray} {v : Value} {wr w2 : World} {o : Obj} {x : ByteArray} (h : FldAt w s pos ds v wr) {g cap : Nat}
    (hown : w2.ownsRow (w.heap.size + 1) 9 1 (.slice (some ⟨g, 0, none⟩) (ds.length + 1) cap) (ds.length + 1) (ds.map Value.string ++ [.string x])) (hgr : (wr.alloc o).grownBy w2 v.ownBlock) :
    FldAt w s pos (ds ++ [x]) (.slice (some ⟨g, 0, none⟩) (ds.length + 1) cap) w2 := by
  have hlt0 : w.heap.size < wr.heap.size := (Array.getElem?_eq_some_iff.1 h.it).1
  have i2 : (wr.alloc o).heap[w.heap.size]? = some (.stringIter s pos) := (Below.heap_alloc _ _ _ (by omega)).trans h.it
  have b2 : Below w.heap.size w (wr.alloc o) := h.below.alloc (by omega) _
  have hl2 : w.heap.size < (wr.alloc o).heap.size := (Array.getElem?_eq_some_iff.1 i2).1
  have hne : ∀ j, v.ownBlock = some j → w.heap.size + 1 ≤ j := fun j hj => (h.own.lt j hj).1
  refine ⟨?_, ?_, ?_⟩
  · rw [hgr.block w.heap.size hl2 (fun e => by have := hne _ e.symm; omega)]
    exact i2
  · rw [List.map_append, List.map_singleton, List.length_append, List.length_singleton]
    exact hown
  · exact Below.grown b2 hgr (by omega) (fun j hj => by have := hne j hj; omega)

def FieldsRes (s : ByteArray) (w : World) (e : Ending) (w' : World) : Prop :=
  ∃ v ds, e = .returned v ∧ (StrsVal w' v ds ∧ w'.ownsRow (w.heap.size + 1) 9 1 v ds.length (ds.map Value.string)) ∧ ds.map nats = words (nats s) ∧ ds.length ≤ s.size + 1 ∧ ∃ y : Ext w, w' = y.now

set_option maxRecDepth 1000000 in
set_option maxHeartbeats 2000000 in
theorem zzFields_any (s : ByteArray) (w : World) (hs : s.size < 100000000000) (hf : foreign (nats s) = false) :
    Calls Tryz.prog 47 #[.string s] w fun e w' => FieldsRes s w e w' := by
  have has : ∀ i (h : i < s.size), (s[i]'h).toNat < 128 := fun i h => by
    rw [← nats_at s i h]
    exact foreign_mem hf _ (getD_mem (by rw [nats_length]; exact h))
  have HAS := Lib.hid has
  clear has hf
  go_enter Tryz.func47, Tryz.ntmps47
  go_wp2_with fail
  go_loopw [3, 4] (fun t3 t4 wr => ∃ (pos : Nat) (fr : Int) (ds : List ByteArray) (cur : List Nat), t4 = .int .i64 fr ∧ pos ≤ s.size ∧ ((fr = -1 ∧ cur = []) ∨ (∃ f : Nat, fr = f ∧ f < pos ∧ cur = ((nats s).take pos).drop f)) ∧ ds.map nats ++ wordsGo ((nats s).drop pos) cur = words (nats s) ∧ ds.length ≤ pos ∧
    (ds = [] → t3 = .slice none 0 0) ∧ FldAt w s pos ds t3 wr) (fun _ _ wr => s.size - wr.iterPos w.heap.size)
  case atStart => exact ⟨0, -1, [], [], rfl, Nat.zero_le _, .inl ⟨rfl, rfl⟩, by simp [words], by simp, fun _ => rfl, ⟨World.iter_heap w s 0, by simpa using World.ownsRow_nil _ _ _ _, (Below.refl _ _).alloc (Nat.le_refl _) _⟩⟩
  case round =>
    obtain ⟨pos, fr, ds, cur, rfl, hi, hcur, hp, hd, hv, hL⟩ := hrel
    have HP := Lib.hid hp
    have HV := Lib.hid hv
    have hpos0 := iterPos_of hL.it
    clear hp hv
    have h0 : (0 : Int) ≤ (pos : Int) := by omega
    have h3 : (pos : Int) ≤ (s.size : Int) := by omega
    by_cases hlt : pos < s.size
    · have hnx : ∀ ty, (Instr.next (.pointer (some ⟨w.heap.size, 0, none⟩)) true ty).run Tryz.prog wr = _ := fun ty => Lib.run_next_ascii_at wr w.heap.size s pos ty hL.it hlt (HAS.out pos hlt)
      have HL := Lib.hid hL.next
      have hlt0 : w.heap.size < wr.heap.size := (Array.getElem?_eq_some_iff.1 hL.it).1
      have s1 := Lib.iterAt_size wr w.heap.size s (pos + 1)
      obtain ⟨W1, hW1⟩ : ∃ W1, W1 = wr.iterAt w.heap.size s (pos + 1) := ⟨_, rfl⟩
      rw [← hW1] at hnx s1 HL
      have hle : w.heap.size + 1 ≤ W1.heap.size := by omega
      clear hL hW1 s1 hlt0
      have hl : pos < (nats s).length := by rw [nats_length]; exact hlt
      have HT := Lib.hid (take_snoc hl)
      have hdr := List.drop_eq_getElem_cons hl
      have hat := nats_at s pos hlt
      rw [List.getD_eq_getElem?_getD, List.getElem?_eq_getElem hl] at hat
      rw [show (nats s)[pos] = (s[pos]'hlt).toNat from hat] at hdr
      rw [nats_at s pos hlt] at HT
      have HDR := Lib.hid hdr
      have HB := Lib.hid (fun w => space_any (s[pos]'hlt).toNat (HAS.out pos hlt) w)
      clear hdr hat
      cases hb : blank (s[pos]'hlt).toNat with
      | true =>
        rw [hb] at HB
        rcases hcur with ⟨rfl, rfl⟩ | ⟨f, rfl, hf, rfl⟩
        · go_wp2_with (go_at_call 74; (with_reducible refine (HB.out _).mono ?_); rintro e w9 ⟨rfl, rfl⟩)
          refine ⟨⟨pos + 1, -1, ds, [], rfl, by omega, .inl ⟨rfl, rfl⟩, ?_, by omega, HV.out, HL.out⟩, by rw [iterPos_of HL.out.it, hpos0]; omega⟩
          have h5 := HP.out
          rw [HDR.out] at h5
          rw [← h5]
          simp only [wordsGo, hb, if_true]
        · have f0 : (0 : Int) ≤ (f : Int) := by omega
          have f1 : (f : Int) ≤ (pos : Int) := by omega
          have f2 : (f : Int) ≤ (s.size : Int) := by omega
          go_wp2_with (first
            | (go_at_call 74; (with_reducible refine (HB.out _).mono ?_); rintro e w9 ⟨rfl, rfl⟩)
            | (at_builtin; refine str_append _ rfl _ _ rfl (w.heap.size + 1) ds.length u3 (ds.map Value.string) rfl (HL.out.own.alloc _) ⟨w9.heap.size, 0, none⟩ 1 (s.extract f pos) rfl (by simp) (by omega) (by simp; omega) ?_))
          intro g cap w1 ho hg
          have HX := Lib.hid (HL.out.app ho hg)
          clear ho hg
          go_wp2_with fail
          refine ⟨⟨pos + 1, -1, ds ++ [s.extract f pos], [], rfl, by omega, .inl ⟨rfl, rfl⟩, ?_, by simp; omega, fun h => absurd h (by simp), HX.out⟩, by rw [iterPos_of HX.out.it, hpos0]; omega⟩
          have h5 := HP.out
          have hne : ¬ ((nats s).take pos).drop f = [] := by
            intro e
            have := congrArg List.length e
            rw [List.length_drop, List.length_take, nats_length] at this
            simp at this
            omega
          rw [HDR.out] at h5
          rw [← h5]
          simp only [wordsGo, hb, if_true, if_neg hne, List.map_append, List.map_singleton, nats_extract]
          simp
      | false =>
        rw [hb] at HB
        rcases hcur with ⟨rfl, rfl⟩ | ⟨f, rfl, hf, rfl⟩
        · go_wp2_with (go_at_call 74; (with_reducible refine (HB.out _).mono ?_); rintro e w9 ⟨rfl, rfl⟩)
          refine ⟨⟨pos + 1, pos, ds, [(s[pos]'hlt).toNat], rfl, by omega, .inr ⟨pos, rfl, Nat.lt_succ_self _, ?_⟩, ?_, by omega, HV.out, HL.out⟩, by rw [iterPos_of HL.out.it, hpos0]; omega⟩
          · rw [HT.out, List.drop_append_of_le_length (by rw [List.length_take, nats_length]; omega), List.drop_eq_nil_of_le (by rw [List.length_take]; omega)]
            rfl
          · have h5 := HP.out
            rw [HDR.out] at h5
            rw [← h5]
            conv => rhs; unfold wordsGo
            rw [hb]
            rfl
        · have f0 : ¬ (f : Int) < 0 := by omega
          go_wp2_with (go_at_call 74; (with_reducible refine (HB.out _).mono ?_); rintro e w9 ⟨rfl, rfl⟩)
          refine ⟨⟨pos + 1, f, ds, ((nats s).take pos).drop f ++ [(s[pos]'hlt).toNat], rfl, by omega, .inr ⟨f, rfl, by omega, ?_⟩, ?_, by omega, HV.out, HL.out⟩, by rw [iterPos_of HL.out.it, hpos0]; omega⟩
          · rw [HT.out, List.drop_append_of_le_length (by rw [List.length_take, nats_length]; omega)]
          · have h5 := HP.out
            rw [HDR.out] at h5
            rw [← h5]
            conv => rhs; unfold wordsGo
            rw [hb]
            rfl
    · have hnx : ∀ ty, (Instr.next (.pointer (some ⟨w.heap.size, 0, none⟩)) true ty).run Tryz.prog wr = _ := fun ty => Lib.run_next_end_at wr w.heap.size s pos ty hL.it hlt
      obtain rfl : pos = s.size := by omega
      have hend : (nats s).drop s.size = [] := List.drop_eq_nil_of_le (by rw [nats_length]; exact Nat.le_refl _)
      have HE := Lib.hid hend
      have HL := Lib.hid hL
      have hle : w.heap.size + 1 ≤ wr.heap.size := by have := (Array.getElem?_eq_some_iff.1 hL.it).1; omega
      clear hend hL
      rcases hcur with ⟨rfl, rfl⟩ | ⟨f, rfl, hf, rfl⟩
      · go_wp2_with fail
        go_ret
        have h5 := HP.out
        rw [HE.out] at h5
        exact ⟨_, ds, rfl, ⟨.of_own HL.out.own HV.out, HL.out.own⟩, by rw [← h5]; simp [wordsGo], by omega, Ext.of HL.out.below⟩
      · have f0 : (0 : Int) ≤ (f : Int) := by omega
        have f2 : (f : Int) ≤ (s.size : Int) := by omega
        have hne : ¬ ((nats s).take s.size).drop f = [] := by
          intro e
          have := congrArg List.length e
          rw [List.length_drop, List.length_take, nats_length] at this
          simp at this
          omega
        have HNE := Lib.hid hne
        clear hne
        go_wp2_with (at_builtin; refine str_append _ rfl _ _ rfl (w.heap.size + 1) ds.length u3 (ds.map Value.string) rfl (HL.out.own.alloc _) ⟨wr.heap.size, 0, none⟩ 1 (s.extract f s.size) rfl (by simp) (by omega) (by simp; omega) ?_)
        intro g cap w1 ho hg
        have HX := Lib.hid (HL.out.app ho hg)
        clear ho hg
        go_wp2_with fail
        go_ret
        have HOW := HX.out.own
        rw [List.length_append, List.length_singleton] at HOW
        refine ⟨_, ds ++ [s.extract f s.size], rfl, ⟨.of_own (base := w.heap.size + 1) (by rw [List.length_append, List.length_singleton]; exact HOW) (fun h => absurd h (by simp)), by rw [List.length_append, List.length_singleton]; exact HOW⟩, ?_, by simp; omega, Ext.of HX.out.below⟩
        · have h5 := HP.out
          rw [HE.out] at h5
          rw [← h5]
          simp only [wordsGo, if_neg HNE.out, List.map_append, List.map_singleton, nats_extract]

end Go.Proofs.YtopcjlimjkfoiaaGreatDoor
namespace Go.Proofs.YtopcjlimjkfoiaaGreatDoor
open Go.RowKit
attribute [local go_sem] Ext.cell Ext.frozen Ext.lt Ext.lt_add Ext.cell2 Ext.frozen2

def byteVals (l : List UInt8) : List Value := l.map fun b => .int .u8 ((b.toNat : Nat) : Int)

theorem byte_info : (Tryz.prog.info? 5).map (fun i => (i.zero, i.size, i.bytes)) = some (some (.int .u8 0), 1, 1) := by kernel_rfl

def lowc (x : Nat) : Nat := if 65 ≤ x ∧ x ≤ 90 then x + 32 else x

theorem low_whole {l : List UInt8} {v : List Nat} (hl : l.length = v.length) (h : ∀ j, j < v.length → (l.getD j 0).toNat = lowc (v.getD j 0)) : l.map UInt8.toNat = v.map lowc := by
  refine List.ext_getElem (by simp [hl]) fun i h1 h2 => ?_
  have h1' : i < l.length := by simpa using h1
  have h2' : i < v.length := by simpa using h2
  have := h i h2'
  rw [List.getD_eq_getElem?_getD, List.getD_eq_getElem?_getD, List.getElem?_eq_getElem h1', List.getElem?_eq_getElem h2'] at this
  simpa using this

theorem u8_append (w : World) {ops : Array Oper} {rest : List Oper} {o : Oper} {a : Act} {Q : Exit → Act → World → Prop} (hgd : o.guard = none) (s x : Operand)
    (ho : o.op = .call { callee := .builtin .append, args := #[s, x], argTypes := #[196, 196] }) (base n : Nat) (v : Value) (xs : List Value) (hs : a.eval s = v)
    (hown : w.ownsRow base 5 1 v n xs) (ad : Addr) (c : Nat) (u : Value) (hx : a.eval x = .slice (some ad) 1 c)
    (hu : w.cell? ad = some u) (h1 : u.oneCell' = true) (hn : n < 100000000000) (hbase : base ≤ w.heap.size)
    (h : ∀ g cap w', w'.ownsRow base 5 1 (.slice (some ⟨g, 0, none⟩) (n + 1) cap) (n + 1) (xs ++ [u]) → w.grownBy w' v.ownBlock → wpList Tryz.prog ops Q rest (a.put o.dst (.slice (some ⟨g, 0, none⟩) (n + 1) cap)) w') :
    wpList Tryz.prog ops Q (o :: rest) a w := by
  obtain ⟨i, hi, hz0, hz1, hz2⟩ := info_parts byte_info
  refine wpList_append_lies w hgd s x 196 ho base 5 i _ 1 1 (by kernel_rfl) hi hz0 hz1 hz2 rfl (by omega) v n xs hs hown ad 1 c [u] hx rfl (fun j v hj => ?_) (fun v hv => ?_) (by omega) (by simp [maxLen]; omega) (by omega) hbase _ rfl (fun g cap w' a1 a2 a3 _ => h g cap w' a1 a2)
  · cases j with
    | zero =>
      simp at hj
      subst hj
      simpa [Addr.add] using hu
    | succ j => simp at hj
  · simp at hv
    subst hv
    exact h1

theorem u8_text (w : World) {ops : Array Oper} {rest : List Oper} {o : Oper} {a : Act} {Q : Exit → Act → World → Prop} (hgd : o.guard = none) (s x : Operand)
    (ho : o.op = .call { callee := .builtin .append, args := #[s, x], argTypes := #[196, 9] }) (base n : Nat) (v : Value) (xs : List Value) (hs : a.eval s = v)
    (hown : w.ownsRow base 5 1 v n xs) (b : UInt8) (hx : a.eval x = .string ⟨#[b]⟩) (hn : n < 100000000000) (hbase : base ≤ w.heap.size)
    (h : ∀ g cap w', w'.ownsRow base 5 1 (.slice (some ⟨g, 0, none⟩) (n + 1) cap) (n + 1) (xs ++ [.int .u8 ((b.toNat : Nat) : Int)]) → w.grownBy w' v.ownBlock → wpList Tryz.prog ops Q rest (a.put o.dst (.slice (some ⟨g, 0, none⟩) (n + 1) cap)) w') :
    wpList Tryz.prog ops Q (o :: rest) a w := by
  obtain ⟨i, hi, hz0, hz1, hz2⟩ := info_parts byte_info
  refine Lib.wpList_append_own_string w hgd s x 196 9 ho base 5 i (by kernel_rfl) (by kernel_rfl) hi hz0 hz1 hz2 v n xs hs hown ⟨#[b]⟩ hx (by show n + 1 ≤ _; simp [maxLen]; omega) (by show n + 1 ≤ _; omega) hbase fun v' w' h1 h2 _ => ?_
  have h1' : w'.ownsRow base 5 1 v' (n + 1) (xs ++ [.int .u8 ((b.toNat : Nat) : Int)]) := h1
  obtain ⟨g, cap, rfl, _⟩ := ownsRow_cell h1' (by omega)
  exact h g cap w' h1' h2

theorem encode_ascii (c : Nat) (h : c < 128) : Utf8.encode (c : Int) = ⟨#[UInt8.ofNat c]⟩ := by
  have hv : Utf8.valid (c : Int) = true := by
    unfold Utf8.valid
    simp
    omega
  unfold Utf8.encode
  simp only [hv, if_true, Int.toNat_natCast]
  rw [if_pos h]

theorem byteVals_snoc (l : List UInt8) (b : UInt8) : byteVals l ++ [.int .u8 ((b.toNat : Nat) : Int)] = byteVals (l ++ [b]) := by
  unfold byteVals
  rw [List.map_append]
  rfl

theorem low_snoc {l : List UInt8} {v : List Nat} (h : ∀ j, j < l.length → (l.getD j 0).toNat = lowc (v.getD j 0)) (b : UInt8) (hb : b.toNat = lowc (v.getD l.length 0)) :
    ∀ j, j < l.length + 1 → ((l ++ [b]).getD j 0).toNat = lowc (v.getD j 0) := by
  intro j hj
  by_cases e : j = l.length
  · subst e
    rw [List.getD_eq_getElem?_getD]
    simpa using hb
  · rw [List.getD_eq_getElem?_getD, List.getElem?_append_left (by omega), ← List.getD_eq_getElem?_getD]
    exact h j (by omega)

theorem nil_text (w : World) : (convert 196 9 (.slice none 0 0)).run Tryz.prog w = .ok (.string ⟨#[]⟩) w := by kernel_rfl

structure LowAt (w : World) (s : ByteArray) (pos : Nat) (l : List UInt8) (v : Value) (wr : World) : Prop where
  len : l.length = pos
  le : pos ≤ s.size
  it : wr.heap[w.heap.size]? = some (.stringIter s pos)
  own : wr.ownsRow (w.heap.size + 1) 5 1 v pos (byteVals l)
  low : ∀ j, j < l.length → (l.getD j 0).toNat = lowc ((nats s).getD j 0)
  below : Below w.heap.size w wr

theorem LowAt.step {w : World} {s : ByteArray} {pos : Nat} {l : List UInt8} {v : Value} {wr : World} (h : LowAt w s pos l v wr) (hlt : pos < s.size) (b : UInt8) (hb : b.toNat = lowc (s[pos]'hlt).toNat)
    {o : List Obj} {w1 w2 : World} (hw1 : w1 = (wr.iterAt w.heap.size s (pos + 1)) ∨ ∃ o, w1 = (wr.iterAt w.heap.size s (pos + 1)).alloc o) {g cap : Nat}
    (hown : w2.ownsRow (w.heap.size + 1) 5 1 (.slice (some ⟨g, 0, none⟩) (pos + 1) cap) (pos + 1) (byteVals l ++ [.int .u8 ((b.toNat : Nat) : Int)])) (hgr : w1.grownBy w2 v.ownBlock) :
    LowAt w s (pos + 1) (l ++ [b]) (.slice (some ⟨g, 0, none⟩) (pos + 1) cap) w2 := by
  have hlt0 : w.heap.size < wr.heap.size := (Array.getElem?_eq_some_iff.1 h.it).1
  have i1 := Lib.iterAt_heap wr w.heap.size s pos (pos + 1) h.it
  have b1 := Lib.below_iterAt h.below (k := w.heap.size) (Nat.le_refl _) s (pos + 1)
  have s1 := Lib.iterAt_size wr w.heap.size s (pos + 1)
  have i2 : w1.heap[w.heap.size]? = some (.stringIter s (pos + 1)) := by
    rcases hw1 with rfl | ⟨o, rfl⟩
    · exact i1
    · exact (Below.heap_alloc _ _ _ (by omega)).trans i1
  have b2 : Below w.heap.size w w1 := by
    rcases hw1 with rfl | ⟨o, rfl⟩
    · exact b1
    · exact b1.alloc (by omega) _
  have hl2 : w.heap.size < w1.heap.size := (Array.getElem?_eq_some_iff.1 i2).1
  have hne : ∀ j, v.ownBlock = some j → w.heap.size + 1 ≤ j := fun j hj => (h.own.lt j hj).1
  refine ⟨by simp [h.len], by omega, ?_, ?_, ?_, ?_⟩
  · rw [hgr.block w.heap.size hl2 (fun e => by have := hne _ e.symm; omega)]
    exact i2
  · rw [← byteVals_snoc]
    exact hown
  · rw [List.length_append]
    refine low_snoc h.low b ?_
    rw [h.len, nats_at s pos hlt]
    exact hb
  · exact Below.grown b2 hgr (by omega) (fun j hj => by have := hne j hj; omega)

set_option maxRecDepth 1000000 in
set_option maxHeartbeats 4000000 in
theorem zzLower_any (s : ByteArray) (hp : ∀ i (h : i < s.size), (s[i]'h).toNat < 128) (hs : s.size < 8000000000) (w : World) :
    Calls Tryz.prog 109 #[.string s] w fun e w' => ∃ t : ByteArray, e = .returned (.string t) ∧ nats t = (nats s).map lowc ∧ ∃ y : Ext w, w' = y.now := by
  have HP := Lib.hid hp
  clear hp
  go_enter Tryz.func109, Tryz.ntmps109
  go_wp2_with fail
  go_loopw [3] (fun v wr => ∃ (pos : Nat) (l : List UInt8), LowAt w s pos l v wr) (fun _ wr => s.size - wr.iterPos w.heap.size)
  case atStart => exact ⟨0, [], rfl, Nat.zero_le _, World.iter_heap w s 0, World.ownsRow_nil _ _ _ _, fun j hj => absurd hj (by simp), (Below.refl _ _).alloc (Nat.le_refl _) _⟩
  case round =>
    obtain ⟨pos, l, hL⟩ := hrel
    have hpos0 := iterPos_of hL.it
    by_cases hlt : pos < s.size
    · have hnx : ∀ ty, (Instr.next (.pointer (some ⟨w.heap.size, 0, none⟩)) true ty).run Tryz.prog wr = _ := fun ty => Lib.run_next_ascii_at wr w.heap.size s pos ty hL.it hlt (HP.out pos hlt)
      have hc := HP.out pos hlt
      have hlt0 : w.heap.size < wr.heap.size := (Array.getElem?_eq_some_iff.1 hL.it).1
      have s1 := Lib.iterAt_size wr w.heap.size s (pos + 1)
      have own1 := ownsRow_iterAt hL.own (k := w.heap.size) (by omega) s (pos + 1)
      have HS := Lib.hid (fun (b : UInt8) hb (w1 w2 : World) hw1 (g cap : Nat) hown hgr => hL.step hlt b hb (o := []) (w1 := w1) (w2 := w2) hw1 (g := g) (cap := cap) hown hgr)
      obtain ⟨W1, hW1⟩ : ∃ W1, W1 = wr.iterAt w.heap.size s (pos + 1) := ⟨_, rfl⟩
      rw [← hW1] at hnx s1 own1 HS
      obtain ⟨c, hcc⟩ : ∃ c, c = (s[pos]'hlt).toNat := ⟨_, rfl⟩
      rw [← hcc] at hnx hc HS
      have hle : w.heap.size + 1 ≤ W1.heap.size := by omega
      have OWN := Lib.hid own1
      clear own1 hL hW1 hcc
      have hle2 : w.heap.size + 1 ≤ (W1.alloc (.cells #[.int .u8 ((c : Int) - 65 + 97)] 5)).heap.size := by simp; omega
      have hb0 : ∀ n, n < 256 → (UInt8.ofNat n).toNat = n := fun n hn => by simp; omega
      have hen := encode_ascii c hc
      have k1 : ((c : Int) == 304) = false := by simp; omega
      have k2 : ((c : Int) == 8490) = false := by simp; omega
      have k3 : ¬ (c : Int) = 304 := by omega
      have k4 : ¬ (c : Int) = 8490 := by omega
      clear s1 hlt0
      by_cases ha : 65 ≤ c
      · have ha' : (65 : Int) ≤ (c : Int) := by omega
        by_cases hz : c ≤ 90
        · have hz' : (c : Int) ≤ 90 := by omega
          have hlc : lowc c = c + 32 := by unfold lowc; rw [if_pos ⟨ha, hz⟩]
          have hcv : (Value.int .u8 ((c : Int) - 65 + 97)) = .int .u8 (((UInt8.ofNat (c + 32)).toNat : Nat) : Int) := by rw [hb0 _ (by omega)]; congr 1; omega
          have HCV := Lib.hid hcv
          have HB := Lib.hid (show (UInt8.ofNat (c + 32)).toNat = lowc c by rw [hb0 _ (by omega), hlc])
          clear hcv hlc hb0 hen
          go_wp2_with (first | (at_builtin; refine u8_append _ rfl _ _ rfl (w.heap.size + 1) pos _ _ rfl (OWN.out.alloc _) ⟨W1.heap.size, 0, none⟩ 1 (.int .u8 ((c : Int) - 65 + 97)) rfl (by simp) rfl (by omega) hle2 ?_; intro g cap w2 hown hgr; rw [HCV.out] at hown hgr; have X := Lib.hid (HS.out _ HB.out _ _ (.inr ⟨_, rfl⟩) g cap hown hgr); clear hown hgr))
          go_roundw
          case rel => exact ⟨_, _, X.out⟩
          case measure => rw [iterPos_of X.out.it, hpos0]; omega
        · have hz' : ¬ (c : Int) ≤ 90 := by omega
          have HB := Lib.hid (show (UInt8.ofNat c).toNat = lowc c by rw [hb0 _ (by omega)]; unfold lowc; rw [if_neg (fun h => hz h.2)])
          have HB0 := Lib.hid (hb0 c (by omega))
          clear hb0
          go_wp2_with (first | (at_builtin; refine u8_text _ rfl _ _ rfl (w.heap.size + 1) pos _ _ rfl OWN.out (UInt8.ofNat c) rfl (by omega) hle ?_; intro g cap w2 hown hgr; have X := Lib.hid (HS.out _ HB.out _ _ (.inl rfl) g cap hown hgr); clear hown hgr))
          go_roundw
          case rel => exact ⟨_, _, X.out⟩
          case measure => rw [iterPos_of X.out.it, hpos0]; omega
      · have ha' : ¬ (65 : Int) ≤ (c : Int) := by omega
        have HB := Lib.hid (show (UInt8.ofNat c).toNat = lowc c by rw [hb0 _ (by omega)]; unfold lowc; rw [if_neg (fun h => ha h.1)])
        clear hb0
        go_wp2_with (first | (at_builtin; refine u8_text _ rfl _ _ rfl (w.heap.size + 1) pos _ _ rfl OWN.out (UInt8.ofNat c) rfl (by omega) hle ?_; intro g cap w2 hown hgr; have X := Lib.hid (HS.out _ HB.out _ _ (.inl rfl) g cap hown hgr); clear hown hgr))
        go_roundw
        case rel => exact ⟨_, _, X.out⟩
        case measure => rw [iterPos_of X.out.it, hpos0]; omega
    · have hnx : ∀ ty, (Instr.next (.pointer (some ⟨w.heap.size, 0, none⟩)) true ty).run Tryz.prog wr = _ := fun ty => Lib.run_next_end_at wr w.heap.size s pos ty hL.it hlt
      obtain rfl : pos = s.size := by have := hL.le; omega
      have hlen := hL.len
      have hfin : nats ⟨l.toArray⟩ = (nats s).map lowc := low_whole (by rw [hlen, nats_length]) (fun j hj => hL.low j (by rw [nats_length] at hj; omega))
      have HF := Lib.hid hfin
      have HB := Lib.hid hL.below
      rcases hL.own.2 with ⟨hv, h0⟩ | ⟨g, cap, cur, hv, _⟩
      · subst hv
        have hcv : (convert 196 9 (.slice none 0 0)).run Tryz.prog wr = .ok (.string ⟨l.toArray⟩) wr := by
          obtain rfl : l = [] := List.length_eq_zero_iff.1 (by omega)
          exact nil_text wr
        clear hL hfin hlen
        go_wp2_with fail
        go_ret
        exact ⟨_, rfl, HF.out, Ext.of HB.out⟩
      · subst hv
        have hcell := hL.own.cells (g := g) rfl
        have hcv : (convert 196 9 (.slice (some ⟨g, 0, none⟩) s.size cap)).run Tryz.prog wr = .ok (.string ⟨l.toArray⟩) wr := by
          rw [← hlen]
          refine run_convert_bytes_back wr 196 9 5 ⟨g, 0, none⟩ cap l (by kernel_rfl) (by kernel_rfl) (by kernel_rfl) fun j hj => ?_
          have := hcell j (.int .u8 (((l[j]'hj).toNat : Nat) : Int)) (by unfold byteVals; rw [List.getElem?_map, List.getElem?_eq_getElem hj]; rfl)
          by_cases h0 : j = 0
          · subst h0; simpa [Addr.add] using this
          · simpa [Addr.add, h0] using this
        clear hL hfin hcell hlen
        go_wp2_with fail
        go_ret
        exact ⟨_, rfl, HF.out, Ext.of HB.out⟩

end Go.Proofs.YtopcjlimjkfoiaaGreatDoor
namespace Go.Proofs.YtopcjlimjkfoiaaGreatDoor
open Go.RowKit
attribute [local go_sem] Ext.cell Ext.frozen Ext.lt Ext.lt_add Ext.cell2 Ext.frozen2

theorem first_at (f : Nat → Nat) (c : Nat) : ∀ n, (∀ j, j < n → f j ≠ c) ∨ ∃ N, N < n ∧ f N = c ∧ ∀ j, j < N → f j ≠ c
  | 0 => .inl fun j h => absurd h (Nat.not_lt_zero _)
  | n + 1 => by
    rcases first_at f c n with h | ⟨N, h1, h2, h3⟩
    · by_cases e : f n = c
      · exact .inr ⟨n, Nat.lt_succ_self _, e, h⟩
      · refine .inl fun j hj => ?_
        by_cases e2 : j = n
        · rw [e2]; exact e
        · exact h j (by omega)
    · exact .inr ⟨N, by omega, h2, h3⟩

def PiecesRes (s : ByteArray) (c : Nat) (w : World) (e : Ending) (w' : World) : Prop :=
  ∃ g cap ds, e = .returned (.slice (some ⟨g, 0, none⟩) (List.length ds) cap) ∧ (ds.map nats = pieces c (nats s) ∧ ds.length ≤ s.size + 1) ∧ StrRow w' g ds ∧ ∃ y : Ext w, w' = y.now

set_option maxRecDepth 1000000 in
set_option maxHeartbeats 2000000 in
theorem zzSplit_any (s : ByteArray) (c : UInt8) (w : World) (hs : s.size < 100000000000) :
    Calls Tryz.prog 99 #[.string s, .string ⟨#[c]⟩] w fun e w' => PiecesRes s c.toNat w e w' := by
  have hsz : (⟨#[c]⟩ : ByteArray).size = 1 := rfl
  go_enter Tryz.func99, Tryz.ntmps99
  go_wp2_with fail
  go_loopw [0, 5] (fun t0 t5 wr => ∃ (r : ByteArray) (ds : List ByteArray), t0 = .string r ∧ ds.length + r.size ≤ s.size ∧ ds.map nats ++ pieces c.toNat (nats r) = pieces c.toNat (nats s) ∧ wr.ownsRow w.heap.size 9 1 t5 ds.length (ds.map Value.string) ∧ ∃ x : Ext w, wr = x.now) (fun t _ _ => szOf t)
  case atStart => exact ⟨s, [], rfl, by simp, by simp, by simpa using World.ownsRow_nil w w.heap.size 9 1, Ext.here _⟩
  case round =>
    obtain ⟨r, ds, rfl, hle, hp, hown, x, rfl⟩ := hrel
    have HP := Lib.hid hp
    have HOWN := Lib.hid hown
    have hxl := x.le
    clear hp hown
    rcases first_at (fun j => (nats r).getD j 0) c.toNat r.size with hno | ⟨N, hN, hat, hno⟩
    · have hix := Lib.hid (fun (W : World) => index_no r c hno W (by omega))
      have HNO := Lib.hid (show c.toNat ∉ nats r from fun h => by
        obtain ⟨j, hj, e⟩ := mem_getD h
        exact hno j (by rw [← nats_length]; exact hj) e)
      clear hno
      go_wp2_with (first
        | (go_at_call 43; (with_reducible refine (hix.out _).mono ?_); rintro e w9 ⟨rfl, rfl⟩)
        | (at_builtin; refine str_append _ rfl _ _ rfl w.heap.size ds.length u5 (ds.map Value.string) rfl (HOWN.out.alloc _) ⟨x.now.heap.size, 0, none⟩ 1 r rfl (by simp) (by omega) (by simp; omega) ?_))
      intro g cap w1 ho hg
      have hxe := Ext.grown (x.trans (Ext.one _ _)) rfl (HOWN.out.alloc (Obj.cells #[Value.string r] 9)) hg
      have HO := Lib.hid ho
      clear ho hg
      go_wp2_with fail
      go_ret
      obtain ⟨g2, cap2, he2, _, hgl, hcell⟩ := ownsRow_cell HO.out (by omega)
      cases he2
      refine ⟨g, cap, ds ++ [r], by simp, ⟨?_, by simp; omega⟩, ⟨hgl, fun i hi => by rw [List.map_append, List.map_singleton]; exact hcell i (by simpa using hi)⟩, hxe⟩
      rw [← HP.out, pieces_none HNO.out, List.map_append]
      rfl
    · have hix := Lib.hid (fun (W : World) => index_yes r c N hN hat hno W (by omega))
      have HNO := Lib.hid (show nats r = (nats r).take N ++ c.toNat :: (nats r).drop (N + 1) ∧ c.toNat ∉ (nats r).take N from by
        have hl : N < (nats r).length := by rw [nats_length]; exact hN
        refine ⟨?_, fun h => ?_⟩
        · have h1 := List.drop_eq_getElem_cons hl
          have h2 : (nats r)[N] = c.toNat := by
            have := hat
            rwa [List.getD_eq_getElem?_getD, List.getElem?_eq_getElem hl] at this
          rw [h2] at h1
          rw [← h1, List.take_append_drop]
        · obtain ⟨j, hj, e⟩ := mem_getD h
          rw [List.length_take] at hj
          refine hno j (by omega) ?_
          rw [List.getD_eq_getElem?_getD, List.getElem?_take_of_lt (by omega)] at e
          rw [← e, List.getD_eq_getElem?_getD])
      clear hno hat
      obtain ⟨m, hm⟩ : ∃ m, m = N + 1 := ⟨_, rfl⟩
      have hmi : (N : Int) + 1 = (m : Int) := by omega
      have hm1 : (m : Int) ≤ (r.size : Int) := by omega
      have hN0 : ¬ (N : Int) < 0 := by omega
      have hN1 : (N : Int) ≤ (r.size : Int) := by omega
      have hm2 : m ≤ r.size := by omega
      have hm3 : 0 < m := by omega
      have HM := Lib.hid hm
      clear hm hN
      go_wp2_with (first
        | (go_at_call 43; (with_reducible refine (hix.out _).mono ?_); rintro e w9 ⟨rfl, rfl⟩)
        | (at_builtin; refine str_append _ rfl _ _ rfl w.heap.size ds.length u5 (ds.map Value.string) rfl (HOWN.out.alloc _) ⟨x.now.heap.size, 0, none⟩ 1 (r.extract 0 N) rfl (by simp) (by omega) (by simp; omega) ?_))
      intro g cap w1 ho hg
      have hxe := Ext.grown (x.trans (Ext.one _ _)) rfl (HOWN.out.alloc (Obj.cells #[Value.string (r.extract 0 N)] 9)) hg
      have HO := Lib.hid ho
      have HX := Lib.hid hxe
      clear ho hg hxe
      go_wp2_with fail
      refine ⟨⟨r.extract m r.size, ds ++ [r.extract 0 N], rfl, by rw [List.length_append, ByteArray.size_extract]; simp; omega, ?_, ?_, HX.out⟩, by simp only [szOf, ByteArray.size_extract]; omega⟩
      · have h1 := HNO.out.1
        have h2 := pieces_at ((nats r).drop (N + 1)) HNO.out.2
        rw [← h1] at h2
        rw [← HP.out, h2, List.map_append, List.map_singleton, nats_take, nats_drop, HM.out]
        simp
      · rw [List.map_append, List.map_singleton, List.length_append, List.length_singleton]
        exact HO.out

end Go.Proofs.YtopcjlimjkfoiaaGreatDoor
namespace Go.Proofs.YtopcjlimjkfoiaaGreatDoor
open Go.RowKit
attribute [local go_sem] Ext.cell Ext.frozen Ext.lt Ext.lt_add Ext.cell2 Ext.frozen2

theorem wrap_u64_nat (z : Int) : ∃ n : Nat, n < 18446744073709551616 ∧ IntKind.u64.wrap z = (n : Int) := by
  refine ⟨(IntKind.u64.wrap z).toNat, ?_, ?_⟩
  · simp [IntKind.wrap, IntKind.bits, IntKind.signed]
    omega
  · have := wrap_u64_nonneg z
    omega

theorem bits_u64 (op : BinOp) (hop : op = .and ∨ op = .or) (x y : Int) : ∃ n : Nat, n < 18446744073709551616 ∧ bits op .u64 x y = (n : Int) := by
  have h : ∃ z, bits op .u64 x y = IntKind.u64.wrap z := by
    rcases hop with rfl | rfl
    · exact ⟨_, rfl⟩
    · exact ⟨_, rfl⟩
  obtain ⟨z, hz⟩ := h
  rw [hz]
  exact wrap_u64_nat z

def gbF (hi st : Nat) : Nat → Nat → Int → Int
  | 0, _, acc => acc
  | f + 1, i, acc => if hi < i then acc else gbF hi st f (i + st) (bits .or .u64 acc (IntKind.u64.wrap (2 ^ i)))

theorem gbF_nat (hi st : Nat) : ∀ (f i : Nat) (acc : Int), (∃ n : Nat, n < 18446744073709551616 ∧ acc = (n : Int)) → ∃ n : Nat, n < 18446744073709551616 ∧ gbF hi st f i acc = (n : Int)
  | 0, _, _, h => h
  | f + 1, i, acc, h => by
    unfold gbF
    split
    · exact h
    · exact gbF_nat hi st f _ _ (bits_u64 .or (.inr rfl) _ _)

set_option maxRecDepth 100000 in
theorem getBits_loop (lo hi st : Nat) (h1 : lo < 60) (h2 : hi < 60) (h3 : 1 < st) (h4 : st < 1099511627776) (w : World) :
    Calls Tryz.prog 94 #[.int .u64 lo, .int .u64 hi, .int .u64 st] w fun e w' => e = .returned (.int .u64 (gbF hi st 60 lo 0)) ∧ w' = w := by
  have k0 : ((st : Int) == 1) = false := beq_eq_false_iff_ne.2 (by omega)
  obtain ⟨B, hB⟩ : ∃ B, B = gbF hi st 60 lo 0 := ⟨_, rfl⟩
  rw [← hB]
  have HB := Lib.hid hB
  clear hB
  go_enter Tryz.func94, Tryz.ntmps94
  go_wp2_with fail
  go_loopw [7, 8] (fun t7 t8 wr => ∃ (i f : Nat) (acc : Int), t8 = .int .u64 i ∧ t7 = .int .u64 acc ∧ i < 1099511627900 ∧ hi + 1 ≤ i + f ∧ gbF hi st f i acc = B ∧ wr = w) (fun _ t _ => 100 - (intOf t).toNat)
  case atStart => exact ⟨lo, 60, 0, rfl, rfl, by omega, by omega, HB.out.symm, rfl⟩
  case round =>
    obtain ⟨i, f, acc, rfl, rfl, hi1, hf, hg, rfl⟩ := hrel
    have HG := Lib.hid hg
    clear hg
    by_cases hlt : i ≤ hi
    · have hlt' : (i : Int) ≤ (hi : Int) := by omega
      obtain ⟨f, rfl⟩ : ∃ g, f = g + 1 := ⟨f - 1, by omega⟩
      have HG2 := Lib.hid (show gbF hi st f (i + st) (bits .or .u64 acc (IntKind.u64.wrap (2 ^ i))) = B from by
        have h5 := HG.out
        unfold gbF at h5
        rwa [if_neg (by omega)] at h5)
      go_wp2_with fail
      exact ⟨⟨i + st, f, _, by simp, rfl, by omega, by omega, HG2.out, trivial⟩, by simp [intOf]; omega⟩
    · have hlt' : ¬ (i : Int) ≤ (hi : Int) := by omega
      have HG2 := Lib.hid (show acc = B from by
        have h5 := HG.out
        cases f with
        | zero => exact h5
        | succ f =>
          unfold gbF at h5
          rwa [if_pos (by omega)] at h5)
      go_wp2_with fail
      go_ret
      exact ⟨by show Ending.returned (Value.int .u64 acc) = _; rw [HG2.out], rfl⟩

theorem getBits_any (lo hi st : Nat) (h1 : lo < 60) (h2 : hi < 60) (h3 : 0 < st) (h4 : st < 1099511627776) :
    ∃ b : Nat, b < 18446744073709551616 ∧ ∀ w, Calls Tryz.prog 94 #[.int .u64 lo, .int .u64 hi, .int .u64 st] w fun e w' => e = .returned (.int .u64 b) ∧ w' = w := by
  by_cases h : st = 1
  · subst h
    obtain ⟨b, hb, e⟩ := bits_u64 .and (.inl rfl) (bits .xor .u64 IntKind.u64.max (IntKind.u64.wrap (18446744073709551615 * 2 ^ (hi + 1)))) (IntKind.u64.wrap (18446744073709551615 * 2 ^ lo))
    refine ⟨b, hb, fun w => ?_⟩
    rw [← e]
    show Calls Tryz.prog 94 #[.int .u64 lo, .int .u64 hi, .int .u64 1] w fun e w' => _
    go_enter Tryz.func94, Tryz.ntmps94
    go_wp2
    go_ret
    exact ⟨rfl, rfl⟩
  · obtain ⟨b, hb, e⟩ := gbF_nat hi st 60 lo 0 ⟨0, by decide, rfl⟩
    exact ⟨b, hb, fun w => by rw [← e]; exact getBits_loop lo hi st h1 h2 (by omega) h4 w⟩

end Go.Proofs.YtopcjlimjkfoiaaGreatDoor
