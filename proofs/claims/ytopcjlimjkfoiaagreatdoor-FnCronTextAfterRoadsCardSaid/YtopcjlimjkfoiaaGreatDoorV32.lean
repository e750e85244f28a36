/-
FnCronTextAfterRoads: the calendar, the schedules, their texts and the zones, part 32 of 34.
-/
import Derived.Test.YtopcjlimjkfoiaaGreatDoorV31
import Derived.Test.YtopcjlimjkfoiaaGreatDoorV20
import Derived.Test.YtopcjlimjkfoiaaGreatDoorV29
import Derived.Test.YtopcjlimjkfoiaaGreatDoorV19
set_option linter.all false
namespace Go.Proofs.YtopcjlimjkfoiaaGreatDoor
open Go.RowKit Go.Cal

theorem calls_some {f : FuncId} {args : Array Value} {w : World} {R : Ending → World → Prop} (h : Calls Tryz.prog f args w R) : ∃ e w', R e w' := by
  obtain ⟨e, w', _, h, _⟩ := h []
  exact ⟨e, w', h⟩

theorem blank_low {c : Nat} (h : blank c = true) : c < 128 := by
  unfold blank at h
  simp at h
  omega

theorem mem_trim {l : List Nat} {c : Nat} (h : c ∈ l) (hb : blank c = false) : c ∈ trimL l := by
  have drop_mem : ∀ {l : List Nat}, c ∈ l → c ∈ l.dropWhile blank := by
    intro l
    induction l with
    | nil => exact fun h => h
    | cons x l ih =>
      intro h
      rw [List.dropWhile_cons]
      split
      · rename_i hx
        rcases List.mem_cons.1 h with rfl | h
        · rw [hb] at hx; cases hx
        · exact ih h
      · exact h
  unfold trimL rtrim
  exact List.mem_reverse.2 (drop_mem (List.mem_reverse.2 (drop_mem h)))

theorem foreign_trim {l : List Nat} (h : foreign (trimL l) = false) : foreign l = false := by
  unfold foreign at *
  rw [List.any_eq_false] at *
  intro c hc
  cases hb : blank c with
  | true => have := blank_low hb; simp; omega
  | false => exact h c (mem_trim hc hb)

structure HeadIs (s : ByteArray) (h N : Nat) (own : Bool) : Prop where
  head : zoneHead (nats s) = h
  pos : 0 < h
  le : h ≤ N
  lt : N < s.size
  sp : (nats s).getD N 0 = 32
  nosp : ∀ j, h ≤ j → j < N → (nats s).getD j 0 ≠ 32
  name : nats (s.extract h N) = [] ∨ nats (s.extract h N) = utcL ∨ nats (s.extract h N) = localL
  at_ : foreign ((nats s).drop N) = false → HeadAt s (trimL ((nats s).drop N)) own

theorem getD_head {H l : List Nat} {j : Nat} (h : j < H.length) : (H ++ l).getD j 0 = H.getD j 0 := by
  rw [List.getD_eq_getElem?_getD, List.getD_eq_getElem?_getD, List.getElem?_append_left h]

theorem head_is (s : ByteArray) (H l : List Nat) (h Q N : Nat) (own : Bool) (nm : List Nat) (hs : nats s = H ++ l) (hH : H.length = N + 1) (hQ : Q + 1 = h) (hN : h ≤ N) (c1 : ∀ j, j < N → H.getD j 0 ≠ 32) (c2 : H.getD N 0 = 32) (c3 : ∀ j, j < Q → H.getD j 0 ≠ 61) (c4 : H.getD Q 0 = 61)
    (c5 : (H.take N).drop h = nm) (c6 : (H.take 3 = [84, 90, 61] ∧ h = 3) ∨ (H.take 3 ≠ [84, 90, 61] ∧ H.take 8 = [67, 82, 79, 78, 95, 84, 90, 61] ∧ h = 8)) (c7 : (own = true ∧ (nm = [] ∨ nm = utcL)) ∨ (own = false ∧ nm = localL)) : HeadIs s h N own := by
  have hl : s.size = N + 1 + l.length := by rw [← nats_length, hs, List.length_append, hH]
  have hg : ∀ j, j ≤ N → (nats s).getD j 0 = H.getD j 0 := fun j hj => by rw [hs]; exact getD_head (by omega)
  have hex : nats (s.extract h N) = nm := by
    rw [nats_extract, hs, List.take_append_of_le_length (by omega)]
    exact c5
  have ht : ∀ k, k ≤ N + 1 → (nats s).take k = H.take k := fun k hk => by rw [hs, List.take_append_of_le_length (by omega)]
  have hb3 : begins (nats s) [84, 90, 61] = decide (H.take 3 = [84, 90, 61]) := by
    unfold begins
    rw [show ([84, 90, 61] : List Nat).length = 3 from rfl, ht 3 (by omega)]
  have hb8 : h = 8 → begins (nats s) [67, 82, 79, 78, 95, 84, 90, 61] = decide (H.take 8 = [67, 82, 79, 78, 95, 84, 90, 61]) := fun _ => by
    unfold begins
    rw [show ([67, 82, 79, 78, 95, 84, 90, 61] : List Nat).length = 8 from rfl, ht 8 (by omega)]
  refine ⟨?_, by omega, hN, by omega, by rw [hg N (Nat.le_refl _)]; exact c2, fun j _ hj => by rw [hg j (by omega)]; exact c1 j hj, ?_, fun hf => .inr ⟨Q, N, ?_, by omega, by omega, by rw [hg Q (by omega)]; exact c4, fun j hj => by rw [hg j (by omega)]; exact c3 j hj, by rw [hg N (Nat.le_refl _)]; exact c2, fun j hj => by rw [hg j (by omega)]; exact c1 j hj, hf, rfl, ?_⟩⟩
  · unfold zoneHead
    rcases c6 with ⟨e, e2⟩ | ⟨e, e2, e3⟩
    · rw [hb3, decide_eq_true e, e2]; rfl
    · rw [hb3, decide_eq_false e, hb8 e3, decide_eq_true e2, e3]; rfl
  · rw [hex]
    rcases c7 with ⟨_, h | h⟩ | ⟨_, h⟩
    · exact .inl h
    · exact .inr (.inl h)
    · exact .inr (.inr h)
  · rcases c6 with ⟨e, e2⟩ | ⟨e, e2, e3⟩
    · left; rw [hb3]; exact decide_eq_true e
    · right; rw [hb8 e3]; exact decide_eq_true e2
  · rw [hQ, hex]
    exact c7

theorem heads_are (k : Nat) (hk : k < 6) (t : ByteArray) : ∃ h N, HeadIs (headB k ++ t) h N (decide (k < 4)) := by
  rcases (show k = 0 ∨ k = 1 ∨ k = 2 ∨ k = 3 ∨ k = 4 ∨ k = 5 by omega) with rfl | rfl | rfl | rfl | rfl | rfl
  · exact ⟨3, 6, head_is _ _ (nats t) 3 2 6 _ utcL (nats_append _ _) (by decide) rfl (by decide) (by decide) (by decide) (by decide) (by decide) (by decide) (by decide) (.inl ⟨rfl, .inr rfl⟩)⟩
  · exact ⟨8, 11, head_is _ _ (nats t) 8 7 11 _ utcL (nats_append _ _) (by decide) rfl (by decide) (by decide) (by decide) (by decide) (by decide) (by decide) (by decide) (.inl ⟨rfl, .inr rfl⟩)⟩
  · exact ⟨3, 3, head_is _ _ (nats t) 3 2 3 _ [] (nats_append _ _) (by decide) rfl (by decide) (by decide) (by decide) (by decide) (by decide) (by decide) (by decide) (.inl ⟨rfl, .inl rfl⟩)⟩
  · exact ⟨8, 8, head_is _ _ (nats t) 8 7 8 _ [] (nats_append _ _) (by decide) rfl (by decide) (by decide) (by decide) (by decide) (by decide) (by decide) (by decide) (.inl ⟨rfl, .inl rfl⟩)⟩
  · exact ⟨3, 8, head_is _ _ (nats t) 3 2 8 _ localL (nats_append _ _) (by decide) rfl (by decide) (by decide) (by decide) (by decide) (by decide) (by decide) (by decide) (.inr ⟨rfl, rfl⟩)⟩
  · exact ⟨8, 13, head_is _ _ (nats t) 8 7 13 _ localL (nats_append _ _) (by decide) rfl (by decide) (by decide) (by decide) (by decide) (by decide) (by decide) (by decide) (.inr ⟨rfl, rfl⟩)⟩

end Go.Proofs.YtopcjlimjkfoiaaGreatDoor
namespace Go.Proofs.YtopcjlimjkfoiaaGreatDoor
open Go.RowKit Go.Cal

theorem parses (w0 : World) {o : Nat} (ho : o < 512) (hno : ¬ (o.testBit 1 = true ∧ o.testBit 7 = true)) {s : ByteArray} (hs : s.size < 500000000) (hs0 : 0 < s.size) {l : List Nat} {u : Bool} (hh : HeadAt s l u) (hf : PlainFine o l) : ∃ K, K.Ok ∧ ParsesTo o s u K := by
  rcases hf with ⟨h1, h2, h3⟩ | ⟨h1, h2⟩
  · obtain ⟨K, hK, hP⟩ := parse_desc o ho h2 s hs hs0 l u hh h1 h3
    cases K with
    | every d =>
      refine ⟨.every d, hK d rfl, fun w => (hP w).mono ?_⟩
      rintro e w' ⟨he, hx⟩
      exact ⟨⟨_, none, he, rfl, fun f h => by cases h⟩, hx⟩
    | sets f =>
      have hok : (Kd.sets f).Ok := by
        obtain ⟨e, w', ⟨S, p, _, hS, _⟩, _⟩ := calls_some (hP w0)
        exact hS.bd
      refine ⟨.sets f, hok, fun w => (hP w).mono ?_⟩
      rintro e w' ⟨⟨S, p, he, hS, h6, hp⟩, hx⟩
      exact ⟨⟨_, p, he, ⟨S, rfl, hS, h6⟩, fun f h => hp⟩, hx⟩
  · obtain ⟨f, hP⟩ := parse_fields o ho hno s hs hs0 l u hh h1 h2
    have hok : (Kd.sets f).Ok := by
      obtain ⟨e, w', ⟨S, p, _, hS, _⟩, _⟩ := calls_some (hP w0)
      exact hS.bd
    refine ⟨.sets f, hok, fun w => (hP w).mono ?_⟩
    rintro e w' ⟨⟨S, p, he, hS, h6, hp⟩, hx⟩
    exact ⟨⟨_, p, he, ⟨S, rfl, hS, h6⟩, fun f h => hp⟩, hx⟩

end Go.Proofs.YtopcjlimjkfoiaaGreatDoor
namespace Go.Proofs.YtopcjlimjkfoiaaGreatDoor
open Go.RowKit Go.Cal

def HeadOf (t hd : ByteArray) (own : Bool) : Prop := (hd = ByteArray.empty ∧ own = false) ∨ ∃ h N, HeadIs (hd ++ t) h N own ∧ hd.size ≤ 14

theorem head_small (k : Nat) : (headB k).size ≤ 14 := by
  unfold headB
  split <;> decide

theorem MeanRes.imp {F G : Prop} {e : Ending} (h : MeanRes F e) (hi : F → G) : MeanRes G e := by
  obtain ⟨C, v, h1, h2, h3, h4⟩ := h
  exact ⟨C, v, h1, h2, h3, fun h => hi (h4 h)⟩

theorem zoneHead_zero {l : List Nat} (h : zoneHead l = 0) : begins l [84, 90, 61] = false ∧ begins l [67, 82, 79, 78, 95, 84, 90, 61] = false := by
  unfold zoneHead at h
  split at h
  · cases h
  · split at h
    · cases h
    · rename_i h1 h2
      exact ⟨Bool.eq_false_iff.2 h1, Bool.eq_false_iff.2 h2⟩

def TextFine (o : Nat) (s : ByteArray) (own : Bool) : Prop := 0 < s.size ∧ ∃ l, HeadAt s l own ∧ PlainFine o l

theorem spec_any (o : Nat) (ho : o < 512) {t hd : ByteArray} {own : Bool} (hz : zoneHead (nats t) = 0) (ht : t.size ≤ 65536) (hH : HeadOf t hd own) (w : World) :
    Calls Tryz.prog 11 #[.int .i64 o, .string (hd ++ t)] w fun e w' => MeanRes (TextFine o (hd ++ t) own) e ∧ ∃ y : Ext w, w' = y.now := by
  rcases hH with ⟨rfl, rfl⟩ | ⟨h, N, hI, hs⟩
  · have e : ByteArray.empty ++ t = t := nats_inj (by rw [nats_append, nats_nil]; rfl)
    rw [e]
    refine (parse_plain o ho t w (by omega) hz).mono ?_
    rintro e w' ⟨hm, hx⟩
    refine ⟨hm.imp fun ⟨h1, h2⟩ => ⟨?_, _, .inl ⟨(zoneHead_zero hz).1, (zoneHead_zero hz).2, rfl, rfl⟩, h2⟩, hx⟩
    rcases Nat.eq_zero_or_pos t.size with h | h
    · exact absurd (List.length_eq_zero_iff.1 (by rw [nats_length]; exact h)) h1
    · exact h
  · have hsz : (hd ++ t).size < 500000000 := by rw [ByteArray.size_append]; omega
    refine (parse_zone o ho (hd ++ t) w (by omega) h N hI.head hI.pos hI.le hI.lt hI.sp hI.nosp hI.name).mono ?_
    rintro e w' ⟨hm, hx⟩
    exact ⟨hm.imp fun ⟨h1, h2⟩ => ⟨by have := hI.lt; omega, _, hI.at_ (foreign_trim h1), h2⟩, hx⟩

theorem fine_parses (w0 : World) {o : Nat} (ho : o < 512) (hno : ¬ (o.testBit 1 = true ∧ o.testBit 7 = true)) {s : ByteArray} (hs : s.size < 500000000) {own : Bool} (h : TextFine o s own) : ∃ K, K.Ok ∧ ParsesTo o s own K := by
  obtain ⟨h0, l, h1, h2⟩ := h
  exact parses w0 ho hno hs h0 h1 h2

theorem head_size {t hd : ByteArray} {own : Bool} (ht : t.size ≤ 65536) (hH : HeadOf t hd own) : (hd ++ t).size < 500000000 := by
  rw [ByteArray.size_append]
  rcases hH with ⟨rfl, _⟩ | ⟨h, N, _, hs⟩
  · have : ByteArray.empty.size = 0 := rfl
    omega
  · omega

end Go.Proofs.YtopcjlimjkfoiaaGreatDoor
namespace Go.Proofs.YtopcjlimjkfoiaaGreatDoor
open Go.RowKit

def FitRes (n0 n2 n3 : Nat) (e : Ending) : Prop := ∃ b, e = .returned (.bool b) ∧ (b = true → n0 ≤ 2147483647 ∧ n2 ≤ 2147483647 ∧ n3 ≤ 2147483647)

theorem fits_more (o0 o1 o2 o3 : Option Addr) (n0 n1 n2 n3 c0 c1 c2 c3 : Nat) (w : World) :
    Calls Tryz.prog 4 #[.agg #[.slice o0 n0 c0, .slice o1 n1 c1, .slice o2 n2 c2, .slice o3 n3 c3]] w fun e w' => FitRes n0 n2 n3 e ∧ ∃ y : Ext w, w' = y.now := by
  by_cases h0 : (2147483647 : Int) < (n0 : Int)
  · go_enter Tryz.func4, Tryz.ntmps4
    go_wp2
    go_ret
    exact ⟨⟨false, rfl, fun h => Bool.noConfusion h⟩, Ext.alloc1 _ _⟩
  · by_cases h1 : (2147483647 : Int) < (n1 : Int)
    · go_enter Tryz.func4, Tryz.ntmps4
      go_wp2
      go_ret
      exact ⟨⟨false, rfl, fun h => Bool.noConfusion h⟩, Ext.alloc1 _ _⟩
    · by_cases h2 : (2147483647 : Int) < (n2 : Int)
      · go_enter Tryz.func4, Tryz.ntmps4
        go_wp2
        go_ret
        exact ⟨⟨false, rfl, fun h => Bool.noConfusion h⟩, Ext.alloc1 _ _⟩
      · by_cases h3 : (2147483647 : Int) < (n3 : Int)
        · go_enter Tryz.func4, Tryz.ntmps4
          go_wp2
          go_ret
          exact ⟨⟨false, rfl, fun h => Bool.noConfusion h⟩, Ext.alloc1 _ _⟩
        · go_enter Tryz.func4, Tryz.ntmps4
          go_wp2
          go_ret
          exact ⟨⟨true, rfl, fun _ => ⟨by omega, by omega, by omega⟩⟩, Ext.alloc1 _ _⟩

end Go.Proofs.YtopcjlimjkfoiaaGreatDoor
