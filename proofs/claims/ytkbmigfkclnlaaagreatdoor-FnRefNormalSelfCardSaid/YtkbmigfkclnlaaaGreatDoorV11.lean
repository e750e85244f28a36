/-
FnRefNormalSelf: the regular expressions, the digest and the reference, part 11 of 26.
-/
import Derived.Test.YtkbmigfkclnlaaaGreatDoorV10
set_option linter.all false
namespace Go.Proofs.YtkbmigfkclnlaaaGreatDoor
open Go.RowKit Go.Rx

structure Moved (L : AL) (q : List CE) (pool : List Th) (hand : Option Nat) (w : World) (q1 : List CE) (pool1 : List Th) (hand1 : Option Nat) (w1 : World) : Prop where
 chg : Chg (L.blks q pool hand) w w1
 blk : ∀ b, b ∈ L.blks q1 pool1 hand1 → b ∈ L.blks q pool hand ∨ w.heap.size ≤ b
 le : pool1.length ≤ pool.length

theorem Moved.refl (L : AL) (q : List CE) (pool : List Th) (hand : Option Nat) (w : World) : Moved L q pool hand w q pool hand w :=
 ⟨(Chg.refl w).mono (fun _ h => by cases h), fun _ h => .inl h, Nat.le_refl _⟩

theorem Moved.trans {L : AL} {q q1 q2 : List CE} {pool pool1 pool2 : List Th} {hand hand1 hand2 : Option Nat} {w w1 w2 : World} (h : Moved L q pool hand w q1 pool1 hand1 w1) (g : Moved L q1 pool1 hand1 w1 q2 pool2 hand2 w2) :
  Moved L q pool hand w q2 pool2 hand2 w2 := by
 have hs := h.chg.size
 refine ⟨(h.chg.trans g.chg).mono ?_, ?_, Nat.le_trans g.le h.le⟩
 ·intro b hb hlt
  rcases List.mem_append.1 hb with hb | hb
  ·exact hb
  ·rcases h.blk b hb with hb | hb
   ·exact hb
   ·omega
 ·intro b hb
  rcases g.blk b hb with hb | hb
  ·exact h.blk b hb
  ·exact .inr (by omega)

def New (L : AL) (c : List Int) (q : List CE) (hand : Option Nat) (q1 : List CE) (hand1 : Option Nat) : Prop :=
 (∃ new, q1 = q ++ new ∧ ∀ e, e ∈ new → ∀ t, e.2 = some t → t.1.2 = L.CB → hand = some t.1.1 ∧ hand1 = none ∧ t.2 = c) ∧ (hand1 = hand ∨ hand1 = none)

theorem New.refl (L : AL) (c : List Int) (q : List CE) (hand : Option Nat) : New L c q hand q hand := ⟨⟨[], by simp, fun e h => by cases h⟩, .inl rfl⟩

theorem New.trans {L : AL} {c : List Int} {q q1 q2 : List CE} {hand hand1 hand2 : Option Nat} (h : New L c q hand q1 hand1) (g : New L c q1 hand1 q2 hand2) : New L c q hand q2 hand2 := by
 obtain ⟨⟨n1, e1, h1⟩, hh⟩ := h
 obtain ⟨⟨n2, e2, h2⟩, gh⟩ := g
 refine ⟨⟨n1 ++ n2, by rw [e2, e1, List.append_assoc], ?_⟩, ?_⟩
 ·intro e he t ht hc
  rcases List.mem_append.1 he with he | he
  ·obtain ⟨a1, a2, a3⟩ := h1 e he t ht hc
   refine ⟨a1, ?_, a3⟩
   rcases gh with gh | gh
   ·rw [gh, a2]
   ·exact gh
  ·obtain ⟨a1, a2, a3⟩ := h2 e he t ht hc
   refine ⟨?_, a2, a3⟩
   rcases hh with hh | hh
   ·rw [← hh]; exact a1
   ·rw [hh] at a1; cases a1
 ·rcases gh with gh | gh
  ·rw [gh]; exact hh
  ·exact .inr gh

theorem mem_qBlks {CB : Nat} {q : List CE} {pc : Nat} {t : Th × List Int} (h : (pc, some t) ∈ q) : t.1.1 ∈ qBlks CB q ∧ (t.1.2 ≠ CB → t.1.2 ∈ qBlks CB q) := by
 unfold qBlks
 refine ⟨List.mem_flatMap.2 ⟨_, h, ?_⟩, fun hn => List.mem_flatMap.2 ⟨_, h, ?_⟩⟩
 ·simp only [oBlks]
  split <;> simp
 ·simp only [oBlks, if_neg hn]
  simp

theorem mem_pBlks {pool : List Th} {i : Nat} {t : Th} (h : pool[i]? = some t) : t.1 ∈ pBlks pool ∧ t.2 ∈ pBlks pool := by
 have hm := List.mem_of_getElem? h
 unfold pBlks
 exact ⟨List.mem_flatMap.2 ⟨_, hm, by simp⟩, List.mem_flatMap.2 ⟨_, hm, by simp⟩⟩

def AL.rest (L : AL) (q : List CE) (pool : List Th) (hand : Option Nat) : List Nat := pbBlk L.pb ++ qBlks L.CB q ++ pBlks pool ++ hBlks hand

theorem AL.blks_eq (L : AL) (q : List CE) (pool : List Th) (hand : Option Nat) : L.blks q pool hand = [L.M, L.S, L.D, L.F, L.CB] ++ L.rest q pool hand := by
 simp [AL.blks, AL.rest]

theorem AL.mem_rest {L : AL} {q : List CE} {pool : List Th} {hand : Option Nat} {b : Nat} : b ∈ L.rest q pool hand ↔ b ∈ pbBlk L.pb ∨ b ∈ qBlks L.CB q ∨ b ∈ pBlks pool ∨ b ∈ hBlks hand := by
 simp [AL.rest, or_assoc]

theorem AL.mem_blks {L : AL} {q : List CE} {pool : List Th} {hand : Option Nat} {b : Nat} : b ∈ L.blks q pool hand ↔ b = L.M ∨ b = L.S ∨ b = L.D ∨ b = L.F ∨ b = L.CB ∨ b ∈ L.rest q pool hand := by
 rw [AL.blks_eq]
 simp [or_assoc]

theorem AddSt.fixed {L : AL} {c : List Int} {q : List CE} {pool : List Th} {hand : Option Nat} {w : World} (h : AddSt L c q pool hand w) :
  (L.M ≠ L.S ∧ L.M ≠ L.D ∧ L.M ≠ L.F ∧ L.M ≠ L.CB ∧ L.S ≠ L.D ∧ L.S ≠ L.F ∧ L.S ≠ L.CB ∧ L.D ≠ L.F ∧ L.D ≠ L.CB ∧ L.F ≠ L.CB) ∧
  ∀ b, b ∈ L.rest q pool hand → b ≠ L.M ∧ b ≠ L.S ∧ b ≠ L.D ∧ b ≠ L.F ∧ b ≠ L.CB := by
 have := h.apart
 rw [AL.blks_eq, List.nodup_append] at this
 obtain ⟨h1, _, h3⟩ := this
 simp at h1
 refine ⟨by omega, fun b hb => ⟨?_, ?_, ?_, ?_, ?_⟩⟩ <;> intro e <;> subst e
 ·exact h3 L.M (by simp) _ hb rfl
 ·exact h3 L.S (by simp) _ hb rfl
 ·exact h3 L.D (by simp) _ hb rfl
 ·exact h3 L.F (by simp) _ hb rfl
 ·exact h3 L.CB (by simp) _ hb rfl

theorem prow_chg {w w1 : World} {N : Nat} {pb : Option (Nat × Nat)} {k : Nat} {xs : List Value} {X : List Nat} (h : w.ownsRow N 209 1 (poolVal pb k) k xs) (x : Chg X w w1) (hX : ∀ p, pb = some p → p.1 ∉ X) : w1.ownsRow N 209 1 (poolVal pb k) k xs := by
 cases pb with
 | none =>
  obtain ⟨h1, h2⟩ := h
  refine ⟨h1, ?_⟩
  rcases h2 with h2 | ⟨g, cap, cur, hv, _⟩
  ·exact .inl h2
  ·simp [poolVal] at hv
 | some p => exact ownsRow_chg h x (hX p rfl)

theorem AddSt.threads {L : AL} {c : List Int} {q : List CE} {pool : List Th} {hand : Option Nat} {w w1 : World} {X : List Nat} (h : AddSt L c q pool hand w) (x : Chg X w w1) (hX : ∀ b, b ∈ L.rest q pool hand → b ∉ X) :
  (∀ pc t, (pc, some t) ∈ q → Blk w1 t.1.1 [.pointer (some ⟨L.I, pc * 4, none⟩), .slice (some ⟨t.1.2, 0, none⟩) L.nc L.nc] 212 ∧ (t.1.2 ≠ L.CB → Blk w1 t.1.2 (intCells t.2) 3) ∧ t.2.length = L.nc) ∧
  (∀ (i : Nat) (t : Th), pool[i]? = some t → (∃ v, Blk w1 t.1 [v, .slice (some ⟨t.2, 0, none⟩) L.nc L.nc] 212) ∧ ∃ l, Blk w1 t.2 l 3 ∧ l.length = L.nc) ∧
  w1.ownsRow L.N 209 1 (poolVal L.pb pool.length) pool.length (pool.map fun t => .pointer (some ⟨t.1, 0, none⟩)) ∧
  (∀ T, hand = some T → ∃ v, Blk w1 T [v, .slice (some ⟨L.CB, 0, none⟩) L.nc L.nc] 212) := by
 refine ⟨fun pc t ht => ?_, fun i t ht => ?_, prow_chg h.prow x (fun p hp => hX _ (AL.mem_rest.2 (.inl (by rw [hp]; simp [pbBlk])))), fun T hT => ?_⟩
 ·obtain ⟨a1, a2, a3⟩ := h.thr pc t ht
  obtain ⟨m1, m2⟩ := mem_qBlks (CB := L.CB) ht
  exact ⟨a1.chg x (hX _ (AL.mem_rest.2 (.inr (.inl m1)))), fun hn => (a2 hn).chg x (hX _ (AL.mem_rest.2 (.inr (.inl (m2 hn))))), a3⟩
 ·obtain ⟨⟨v, a2⟩, l, a3, a4⟩ := h.pthr i t ht
  obtain ⟨m1, m2⟩ := mem_pBlks ht
  exact ⟨⟨v, a2.chg x (hX _ (AL.mem_rest.2 (.inr (.inr (.inl m1)))))⟩, l, a3.chg x (hX _ (AL.mem_rest.2 (.inr (.inr (.inl m2))))), a4⟩
 ·obtain ⟨v, a⟩ := h.hthr T hT
  exact ⟨v, a.chg x (hX _ (AL.mem_rest.2 (.inr (.inr (.inr (by rw [hT]; simp [hBlks]))))))⟩

theorem AddSt.look {L : AL} {c : List Int} {q : List CE} {pool : List Th} {hand : Option Nat} {w : World} (ok : AOk L) (h : AddSt L c q pool hand w) (pc : Nat) (hpc : pc < L.np) :
  ∃ j : Nat, w.cell? ⟨L.S, pc, none⟩ = some (.int .u32 j) ∧
   ((pc ∈ q.map (·.1) ∧ j < q.length ∧ w.cell? ⟨L.D, j * 2, none⟩ = some (.int .u32 pc)) ∨
    (pc ∉ q.map (·.1) ∧ q.length ≤ j) ∨
    (pc ∉ q.map (·.1) ∧ j < q.length ∧ ∃ pc2 : Nat, w.cell? ⟨L.D, j * 2, none⟩ = some (.int .u32 pc2) ∧ pc2 ≠ pc)) := by
 obtain ⟨sp, s1, s2, s3⟩ := h.sparse
 obtain ⟨rest, d1, d2⟩ := h.dense
 have hlt : pc < sp.length := by have := ok.np.1; omega
 refine ⟨sp[pc], ?_, ?_⟩
 ·rw [s1.cell]; unfold wordCells; rw [List.getElem?_map, List.getElem?_eq_getElem hlt]; rfl
 ·by_cases hm : pc ∈ q.map (·.1)
  ·left
   obtain ⟨e, he, rfl⟩ := List.mem_map.1 hm
   obtain ⟨i, hi⟩ := List.getElem?_of_mem he
   have hs := s3 i e hi
   rw [List.getElem?_eq_getElem hlt] at hs
   have hs := Option.some.inj hs
   have hil : i < q.length := by
    rcases Nat.lt_or_ge i q.length with hh | hh
    ·exact hh
    ·rw [List.getElem?_eq_none hh] at hi; cases hi
   refine ⟨hm, by omega, ?_⟩
   rw [hs, d1.cell]
   exact (dense_at q rest i e hi).1
  ·right
   rcases Nat.lt_or_ge sp[pc] q.length with hh | hh
   ·right
    have hi : q[sp[pc]]? = some q[sp[pc]] := List.getElem?_eq_getElem hh
    refine ⟨hm, hh, q[sp[pc]].1, ?_, ?_⟩
    ·rw [d1.cell]; exact (dense_at q rest _ _ hi).1
    ·intro e
     exact hm (List.mem_map.2 ⟨_, List.getElem_mem hh, e⟩)
   ·exact .inl ⟨hm, hh⟩

theorem nodup_len : ∀ (n : Nat) (l : List Nat), l.Nodup → (∀ x ∈ l, x < n) → l.length ≤ n := by
 intro n l hd hl
 have hsub : l ⊆ List.range n := fun x hx => List.mem_range.2 (hl x hx)
 have := List.Nodup.length_le_of_subset hd hsub
 simpa using this

end Go.Proofs.YtkbmigfkclnlaaaGreatDoor
namespace Go.Proofs.YtkbmigfkclnlaaaGreatDoor
open Go.RowKit Go.Rx

theorem list_set_two (a : List Value) (x0 x1 y0 y1 : Value) (r : List Value) : ((a ++ (x0 :: x1 :: r)).set (a.length + 1) y1).set a.length y0 = a ++ (y0 :: y1 :: r) := by
 rw [List.set_append_right _ _ (by omega), List.set_append_right _ _ (by omega)]
 simp

theorem wordCells_set (l : List Nat) (i x : Nat) : (wordCells l).set i (.int .u32 x) = wordCells (l.set i x) := by
 unfold wordCells
 rw [List.map_set]

def entW (L : AL) (n pc : Nat) (w : World) : World :=
 (((w.setCell ⟨L.M, L.qo + 1, none⟩ (.slice (some ⟨L.D, 0, none⟩) (n + 1) L.nq)).setCell ⟨L.D, n * 2 + 1, none⟩ (.pointer none)).setCell ⟨L.D, n * 2, none⟩ (.int .u32 pc)).setCell ⟨L.S, pc, none⟩ (.int .u32 n)

theorem entW_chg (L : AL) (n pc : Nat) (w : World) : Chg [L.M, L.D, L.S] w (entW L n pc w) :=
 ((((Chg.set w L.M _ _).trans (Chg.set _ L.D _ _)).trans (Chg.set _ L.D _ _)).trans (Chg.set _ L.S _ _)).mono (fun b hb _ => by simp at hb ⊢; omega)

theorem AddSt.room {L : AL} {c : List Int} {q : List CE} {pool : List Th} {hand : Option Nat} {w : World} (ok : AOk L) (h : AddSt L c q pool hand w) {pc : Nat} (hpc : pc < L.np) (hn : pc ∉ q.map (·.1)) : q.length < L.nq := by
 have h1 : (pc :: q.map (·.1)).Nodup := List.nodup_cons.2 ⟨hn, h.pcs.1⟩
 have h2 := nodup_len L.np (pc :: q.map (·.1)) h1 (by
  intro x hx
  rcases List.mem_cons.1 hx with rfl | hx
  ·exact hpc
  ·obtain ⟨e, he, rfl⟩ := List.mem_map.1 hx
   exact (h.pcs.2 e he).2)
 simp at h2
 have := ok.np.1
 omega

theorem AddSt.cells {L : AL} {c : List Int} {q : List CE} {pool : List Th} {hand : Option Nat} {w : World} (h : AddSt L c q pool hand w) (hr : q.length < L.nq) :
  (∃ x4, w.cell? ⟨L.D, q.length * 2, none⟩ = some x4) ∧ (∃ x5, w.cell? ⟨L.D, q.length * 2 + 1, none⟩ = some x5) := by
 obtain ⟨rest, d1, d2⟩ := h.dense
 have hl := dCells_length q
 refine ⟨⟨(dCells q ++ rest)[q.length * 2]'(by simp; omega), ?_⟩, ⟨(dCells q ++ rest)[q.length * 2 + 1]'(by simp; omega), ?_⟩⟩
 ·rw [d1.cell]; exact List.getElem?_eq_getElem _
 ·rw [d1.cell]; exact List.getElem?_eq_getElem _

set_option maxHeartbeats 2000000 in
theorem AddSt.entry {L : AL} {c : List Int} {q : List CE} {pool : List Th} {hand : Option Nat} {w : World} (ok : AOk L) (h : AddSt L c q pool hand w) {pc : Nat} (hp0 : 0 < pc) (hpc : pc < L.np) (hn : pc ∉ q.map (·.1)) :
  AddSt L c (q ++ [(pc, none)]) pool hand (entW L q.length pc w) ∧ Moved L q pool hand w (q ++ [(pc, none)]) pool hand (entW L q.length pc w) := by
 obtain ⟨⟨f1, f2, f3, f4, f5, f6, f7, f8, f9, f10⟩, fr⟩ := h.fixed
 have hroom := h.room ok hpc hn
 have hc := entW_chg L q.length pc w
 have hblk : L.blks (q ++ [(pc, none)]) pool hand = L.blks q pool hand := by simp [AL.blks, qBlks, oBlks]
 have hge := h.ge
 have hN : ∀ b, b ∈ [L.M, L.D, L.S] → L.N ≤ b := by
  intro b hb
  refine (hge b (AL.mem_blks.2 ?_)).1
  simp at hb
  omega
 obtain ⟨t1, t2, t4, t3⟩ := h.threads hc (fun b hb hm => by have := fr b hb; simp at hm; omega)
 obtain ⟨rest, d1, d2⟩ := h.dense
 obtain ⟨sp, s1, s2, s3⟩ := h.sparse
 have hl := dCells_length q
 refine ⟨?_, hc.mono (fun b hb _ => AL.mem_blks.2 (by simp at hb; omega)), fun b hb => .inl (by rw [hblk] at hb; exact hb), Nat.le_refl _⟩
 exact
 { prog := h.prog.chg hc hN
   mblk := by
     have := (((h.mblk.set (L.qo + 1) (.slice (some ⟨L.D, 0, none⟩) (q.length + 1) L.nq)).set_other f2 (q.length * 2 + 1) (.pointer none)).set_other f2 (q.length * 2) (.int .u32 pc)).set_other f1 pc (.int .u32 q.length)
     rw [AL.mc_len _ _ _ ok] at this
     simpa [entW] using this
   dense := by
     obtain ⟨x0, x1, r, hrest⟩ : ∃ x0 x1 r, rest = x0 :: x1 :: r := by
       match rest, d2 with
       | [], d2 => simp at d2; omega
       | [x], d2 => simp at d2; omega
       | x0 :: x1 :: r, _ => exact ⟨x0, x1, r, rfl⟩
     subst hrest
     refine ⟨r, ?_, by simp at d2 ⊢; omega⟩
     have := (((d1.set_other (Ne.symm f2) (L.qo + 1) (.slice (some ⟨L.D, 0, none⟩) (q.length + 1) L.nq)).set (q.length * 2 + 1) (.pointer none)).set (q.length * 2) (.int .u32 pc)).set_other (Ne.symm f5) pc (.int .u32 q.length)
     rw [← hl, list_set_two] at this
     rw [dCells_append, List.append_assoc]
     rw [hl] at this
     exact this
   sparse := by
     refine ⟨sp.set pc q.length, ?_, by simpa using s2, ?_⟩
     · have := (((s1.set_other (Ne.symm f1) (L.qo + 1) (.slice (some ⟨L.D, 0, none⟩) (q.length + 1) L.nq)).set_other f5 (q.length * 2 + 1) (.pointer none)).set_other f5 (q.length * 2) (.int .u32 pc)).set pc (.int .u32 q.length)
       rw [wordCells_set] at this
       exact this
     · intro i e he
       rcases Nat.lt_or_ge i q.length with hi | hi
       · rw [List.getElem?_append_left hi] at he
         have hne : pc ≠ e.1 := fun hh => hn (List.mem_map.2 ⟨e, List.mem_of_getElem? he, hh.symm⟩)
         rw [List.getElem?_set_ne hne]
         exact s3 i e he
       · rw [List.getElem?_append_right hi] at he
         have hi0 : i - q.length = 0 := by
           cases hh : i - q.length with
           | zero => rfl
           | succ k => rw [hh] at he; simp at he
         rw [hi0] at he
         simp at he
         subst he
         rw [List.getElem?_set_self (by have := ok.np.1; omega)]
         congr 1
         omega
   pcs := by
     refine ⟨?_, ?_⟩
     · rw [List.map_append, List.nodup_append]
       refine ⟨h.pcs.1, by simp, ?_⟩
       intro a ha b hb hab
       simp at hb
       subst hb; subst hab
       exact hn ha
     · intro e he
       rcases List.mem_append.1 he with he | he
       · exact h.pcs.2 e he
       · simp at he
         subst he
         exact ⟨hp0, hpc⟩
   thr := by
     intro pc' t ht
     rcases List.mem_append.1 ht with ht | ht
     · exact t1 pc' t ht
     · simp at ht
   pthr := t2
   prow := t4
   pcap := h.pcap
   hthr := t3
   cap := h.cap.chg hc (by simp; omega)
   clen := h.clen
   flag := h.flag.chg hc (by simp; omega)
   apart := by rw [hblk]; exact h.apart
   ge := fun b hb => by
     rw [hblk] at hb
     obtain ⟨g1, g2⟩ := hge b hb
     exact ⟨g1, Nat.lt_of_lt_of_le g2 hc.size⟩ }

end Go.Proofs.YtkbmigfkclnlaaaGreatDoor
namespace Go.Proofs.YtkbmigfkclnlaaaGreatDoor
open Go.RowKit Go.Rx

section
variable {L : AL} {c : List Int} {q : List CE} {pool : List Th} {hand : Option Nat} {w w1 : World}

theorem AL.blks_hand (L : AL) (q : List CE) (pool : List Th) (hand : Option Nat) : L.blks q pool hand = L.blks q pool none ++ hBlks hand := by
 simp [AL.blks, hBlks]

theorem AddSt.away {X : List Nat} (h : AddSt L c q pool hand w) (x : Chg X w w1) (hX : ∀ b, b ∈ L.blks q pool hand → b ∉ X) (hN : ∀ b, b ∈ X → L.N ≤ b) : AddSt L c q pool hand w1 := by
 have hge := h.ge
 have hm : ∀ b, b = L.M ∨ b = L.S ∨ b = L.D ∨ b = L.F ∨ b = L.CB → b ∉ X := fun b hb => hX b (AL.mem_blks.2 (by
  rcases hb with hb | hb | hb | hb | hb
  ·exact .inl hb
  ·exact .inr (.inl hb)
  ·exact .inr (.inr (.inl hb))
  ·exact .inr (.inr (.inr (.inl hb)))
  ·exact .inr (.inr (.inr (.inr (.inl hb))))))
 obtain ⟨t1, t2, t4, t3⟩ := h.threads x (fun b hb => hX b (AL.mem_blks.2 (.inr (.inr (.inr (.inr (.inr hb)))))))
 obtain ⟨rest, d1, d2⟩ := h.dense
 obtain ⟨sp, s1, s2, s3⟩ := h.sparse
 exact
 { prog := h.prog.chg x hN
   mblk := h.mblk.chg x (hm _ (.inl rfl))
   dense := ⟨rest, d1.chg x (hm _ (.inr (.inr (.inl rfl)))), d2⟩
   sparse := ⟨sp, s1.chg x (hm _ (.inr (.inl rfl))), s2, s3⟩
   pcs := h.pcs
   thr := t1
   pthr := t2
   prow := t4
   pcap := h.pcap
   hthr := t3
   cap := h.cap.chg x (hm _ (.inr (.inr (.inr (.inr rfl)))))
   clen := h.clen
   flag := h.flag.chg x (hm _ (.inr (.inr (.inr (.inl rfl)))))
   apart := h.apart
   ge := fun b hb => ⟨(hge b hb).1, Nat.lt_of_lt_of_le (hge b hb).2 x.size⟩ }

theorem AddSt.drop {T : Nat} (h : AddSt L c q pool (some T) w) : AddSt L c q pool none w ∧ T ∉ L.blks q pool none := by
 have ha := h.apart
 rw [AL.blks_hand, List.nodup_append] at ha
 refine ⟨?_, fun hm => ha.2.2 T hm T (by simp [hBlks]) rfl⟩
 exact { prog := h.prog, mblk := h.mblk, dense := h.dense, sparse := h.sparse, pcs := h.pcs, thr := h.thr, pthr := h.pthr, prow := h.prow, pcap := h.pcap, hthr := (fun T hT => by cases hT), cap := h.cap, clen := h.clen, flag := h.flag, apart := ha.1, ge := fun b hb => h.ge b (by rw [AL.blks_hand]; exact List.mem_append_left _ hb) }

theorem AddSt.take {T : Nat} {v : Value} (h : AddSt L c q pool none w) (hT : Blk w T [v, .slice (some ⟨L.CB, 0, none⟩) L.nc L.nc] 212) (hn : T ∉ L.blks q pool none) (hN : L.N ≤ T) : AddSt L c q pool (some T) w := by
 exact { prog := h.prog, mblk := h.mblk, dense := h.dense, sparse := h.sparse, pcs := h.pcs, thr := h.thr, pthr := h.pthr, prow := h.prow, pcap := h.pcap, hthr := fun T' hT' => (by cases hT'; exact ⟨v, hT⟩), cap := h.cap, clen := h.clen, flag := h.flag, apart := (by
   rw [AL.blks_hand, List.nodup_append]
   refine ⟨h.apart, by simp [hBlks], ?_⟩
   intro a ha b hb e
   simp [hBlks] at hb
   subst hb; subst e
   exact hn ha), ge := fun b hb => (by
   rw [AL.blks_hand] at hb
   rcases List.mem_append.1 hb with hb | hb
   ·exact h.ge b hb
   ·simp [hBlks] at hb
    subst hb
    exact ⟨hN, hT.lt⟩) }

theorem AddSt.setcap (h : AddSt L c q pool hand w) (a : Nat) (v : Int) : AddSt L (c.set a v) q pool hand (w.setCell ⟨L.CB, a, none⟩ (.int .i64 v)) := by
 obtain ⟨⟨f1, f2, f3, f4, f5, f6, f7, f8, f9, f10⟩, fr⟩ := h.fixed
 have x := Chg.set w L.CB a (.int .i64 v)
 have hge := h.ge
 have hNC := (hge L.CB (AL.mem_blks.2 (.inr (.inr (.inr (.inr (.inl rfl))))))).1
 obtain ⟨t1, t2, t4, t3⟩ := h.threads x (fun b hb => by have := (fr b hb).2.2.2.2; simpa using this)
 obtain ⟨rest, d1, d2⟩ := h.dense
 obtain ⟨sp, s1, s2, s3⟩ := h.sparse
 exact
 { prog := h.prog.chg x (by simpa using hNC)
   mblk := h.mblk.chg x (by simpa using f4)
   dense := ⟨rest, d1.chg x (by simpa using f9), d2⟩
   sparse := ⟨sp, s1.chg x (by simpa using f7), s2, s3⟩
   pcs := h.pcs
   thr := t1
   pthr := t2
   prow := t4
   pcap := h.pcap
   hthr := t3
   cap := by
     have := h.cap.set a (.int .i64 v)
     unfold intCells at this ⊢
     rw [List.map_set]
     exact this
   clen := by rw [List.length_set]; exact h.clen
   flag := h.flag.chg x (by simpa using f10)
   apart := h.apart
   ge := fun b hb => ⟨(hge b hb).1, Nat.lt_of_lt_of_le (hge b hb).2 x.size⟩ }

theorem dense_put (q : List CE) (pc : Nat) (o : Option (Th × List Int)) (rest : List Value) (v : Value) : (dCells (q ++ [(pc, o)]) ++ rest).set (q.length * 2 + 1) v = dCells q ++ ([.int .u32 pc, v] ++ rest) := by
 have hl := dCells_length q
 rw [dCells_append, List.append_assoc, ← hl, List.set_append_right _ _ (by omega), show (dCells q).length + 1 - (dCells q).length = 1 by omega]
 simp [dCells]

theorem perm_put (L : AL) (q : List CE) (pc : Nat) (t : Th × List Int) (pool : List Th) : (L.blks (q ++ [(pc, some t)]) pool none).Perm (oBlks L.CB (some t) ++ L.blks (q ++ [(pc, none)]) pool none) := by
 rw [List.perm_iff_count]
 intro a
 simp only [AL.blks, qBlks_append, List.count_append]
 have : qBlks L.CB [(pc, some t)] = oBlks L.CB (some t) := by simp [qBlks]
 rw [this]
 have : qBlks L.CB [(pc, (none : Option (Th × List Int)))] = [] := by simp [qBlks, oBlks]
 rw [this]
 simp only [List.count_nil]
 omega

theorem AddSt.put {pc : Nat} (h : AddSt L c (q ++ [(pc, none)]) pool none w) (t : Th × List Int) (hT : Blk w t.1.1 [.pointer (some ⟨L.I, pc * 4, none⟩), .slice (some ⟨t.1.2, 0, none⟩) L.nc L.nc] 212)
  (hC : t.1.2 ≠ L.CB → Blk w t.1.2 (intCells t.2) 3) (hlen : t.2.length = L.nc) (hap : (oBlks L.CB (some t) ++ L.blks (q ++ [(pc, none)]) pool none).Nodup) (hge : ∀ b, b ∈ oBlks L.CB (some t) → L.N ≤ b ∧ b < w.heap.size) :
  AddSt L c (q ++ [(pc, some t)]) pool none (w.setCell ⟨L.D, q.length * 2 + 1, none⟩ (.pointer (some ⟨t.1.1, 0, none⟩))) := by
 obtain ⟨⟨f1, f2, f3, f4, f5, f6, f7, f8, f9, f10⟩, fr⟩ := h.fixed
 have x := Chg.set w L.D (q.length * 2 + 1) (.pointer (some ⟨t.1.1, 0, none⟩))
 have hge0 := h.ge
 have hmem : ∀ b, b ∈ L.blks (q ++ [(pc, some t)]) pool none → L.N ≤ b ∧ b < w.heap.size := fun b hb => by
  rcases List.mem_append.1 ((perm_put L q pc t pool).mem_iff.1 hb) with hb | hb
  ·exact hge b hb
  ·exact hge0 b hb
 have hDm : L.D ∈ L.blks (q ++ [(pc, none)]) pool none := AL.mem_blks.2 (.inr (.inr (.inl rfl)))
 have hoD : ∀ b, b ∈ oBlks L.CB (some t) → b ≠ L.D := fun b hb e => by
  subst e
  exact (List.nodup_append.1 hap).2.2 _ hb _ hDm rfl
 have o1 : t.1.1 ∈ oBlks L.CB (some t) := by simp only [oBlks]; split <;> simp
 have o2 : t.1.2 ≠ L.CB → t.1.2 ∈ oBlks L.CB (some t) := fun hn => by simp only [oBlks, if_neg hn]; simp
 obtain ⟨t1, t2, t4, t3⟩ := h.threads x (fun b hb => by have := (fr b hb).2.2.1; simpa using this)
 obtain ⟨rest, d1, d2⟩ := h.dense
 obtain ⟨sp, s1, s2, s3⟩ := h.sparse
 have hlq : ∀ o, (q ++ [(pc, o)] : List CE).length = q.length + 1 := fun o => by simp
 exact
 { prog := h.prog.chg x (by simpa using (hge0 _ hDm).1)
   mblk := by
     have := h.mblk.chg x (by simpa using f2)
     rw [hlq] at this ⊢
     exact this
   dense := by
     refine ⟨rest, ?_, by rw [hlq] at d2 ⊢; exact d2⟩
     have := d1.set (q.length * 2 + 1) (.pointer (some ⟨t.1.1, 0, none⟩))
     rw [dense_put] at this
     rw [dCells_append, List.append_assoc]
     simpa [dCells, thPtr] using this
   sparse := by
     refine ⟨sp, s1.chg x (by simpa using f5), s2, ?_⟩
     intro i e he
     rcases Nat.lt_or_ge i q.length with hi | hi
     · rw [List.getElem?_append_left hi] at he
       exact s3 i e (by rw [List.getElem?_append_left hi]; exact he)
     · rw [List.getElem?_append_right hi] at he
       have hi0 : i - q.length = 0 := by
         cases hh : i - q.length with
         | zero => rfl
         | succ k => rw [hh] at he; simp at he
       rw [hi0] at he
       simp at he
       subst he
       exact s3 i (pc, none) (by rw [List.getElem?_append_right hi, hi0]; rfl)
   pcs := by
     obtain ⟨p1, p2⟩ := h.pcs
     refine ⟨by simpa using p1, ?_⟩
     intro e he
     rcases List.mem_append.1 he with he | he
     · exact p2 e (List.mem_append_left _ he)
     · simp at he
       subst he
       exact p2 (pc, none) (by simp)
   thr := by
     intro pc' t' ht
     rcases List.mem_append.1 ht with ht | ht
     · exact t1 pc' t' (List.mem_append_left _ ht)
     · simp at ht
       obtain ⟨rfl, rfl⟩ := ht
       exact ⟨hT.chg x (by simpa using hoD _ o1), fun hn => (hC hn).chg x (by simpa using hoD _ (o2 hn)), hlen⟩
   pthr := t2
   prow := t4
   pcap := h.pcap
   hthr := t3
   cap := h.cap.chg x (by simpa using Ne.symm f9)
   clen := h.clen
   flag := h.flag.chg x (by simpa using Ne.symm f8)
   apart := (perm_put L q pc t pool).nodup_iff.2 hap
   ge := fun b hb => ⟨(hmem b hb).1, Nat.lt_of_lt_of_le (hmem b hb).2 x.size⟩ }
end

end Go.Proofs.YtkbmigfkclnlaaaGreatDoor
namespace Go.Proofs.YtkbmigfkclnlaaaGreatDoor
open Go.RowKit Go.Rx

structure Got (L : AL) (c : List Int) (q : List CE) (pool : List Th) (w : World) (pc T CT : Nat) (pool1 : List Th) (w1 : World) : Prop where
 st : AddSt L c q pool1 none w1
 thr : Blk w1 T [.pointer (some ⟨L.I, pc * 4, none⟩), .slice (some ⟨CT, 0, none⟩) L.nc L.nc] 212
 cap : ∃ l, Blk w1 CT l 3 ∧ l.length = L.nc
 apart : ([T, CT] ++ L.blks q pool1 none).Nodup
 ge : L.N ≤ T ∧ L.N ≤ CT
 chg : Chg (L.blks q pool none) w w1
 blk : ∀ b, b ∈ [T, CT] ++ L.blks q pool1 none → b ∈ L.blks q pool none ∨ w.heap.size ≤ b
 le : pool1.length ≤ pool.length

theorem perm_pool (L : AL) (q : List CE) (pool : List Th) (t : Th) : (L.blks q (pool ++ [t]) none).Perm ([t.1, t.2] ++ L.blks q pool none) := by
 rw [List.perm_iff_count]
 intro a
 have : pBlks (pool ++ [t]) = pBlks pool ++ [t.1, t.2] := by simp [pBlks]
 simp only [AL.blks, List.count_append, this]
 omega

theorem alloc_st {L : AL} (ok : AOk L) {c : List Int} {q : List CE} {pool : List Th} {w : World} (h : AddSt L c q pool none w) (pc : Nat) :
  Calls Tryz.prog 122 #[.pointer (some ⟨L.M, 0, none⟩), .pointer (some ⟨L.I, pc * 4, none⟩)] w fun e w' => ∃ T, e = .returned (.pointer (some ⟨T, 0, none⟩)) ∧ ∃ CT pool1, Got L c q pool w pc T CT pool1 w' := by
 obtain ⟨m1, mq, mq1, m6, m8⟩ := AL.mc ok q.length pool.length
 have hge := h.ge
 have hMm : L.M ∈ L.blks q pool none := AL.mem_blks.2 (.inl rfl)
 have hMl := (hge _ hMm).2
 have c6 : w.cell? ⟨L.M, 6, none⟩ = some (poolVal L.pb pool.length) := (h.mblk.cell 6).trans m6
 have c8 : w.cell? ⟨L.M, 8, none⟩ = some (.slice (some ⟨L.MC, 0, none⟩) L.nc L.nc) := (h.mblk.cell 8).trans m8
 have hnc := ok.nc
 rcases List.eq_nil_or_concat pool with hp | ⟨pool1, t, hp⟩
 ·subst hp
  obtain ⟨ao, cp, hv⟩ : ∃ ao cp, poolVal L.pb 0 = .slice ao 0 cp := by
   cases L.pb with
   | none => exact ⟨none, 0, rfl⟩
   | some p => exact ⟨_, _, rfl⟩
  simp only [List.length_nil] at c6
  rw [hv] at c6
  refine (alloc_new w L.M L.MC L.nc L.I (pc * 4) ao cp c6 c8 hMl (by omega)).mono ?_
  rintro e w' ⟨rfl, CT, hlt, b1, b2, c1⟩
  have hnew : ∀ b, b ∈ L.blks q [] none → b < w.heap.size := fun b hb => (hge b hb).2
  have hN := h.prog.le
  exact ⟨_, rfl, CT, [], {
   st := h.away c1 (fun b hb hm => by cases hm) (fun b hb => by cases hb)
   thr := b1
   cap := ⟨_, b2, by simp⟩
   apart := by
    rw [List.nodup_append]
    refine ⟨by simp; omega, h.apart, ?_⟩
    intro a ha b hb e
    have := hnew b hb
    simp at ha
    omega
   ge := ⟨by omega, by omega⟩
   chg := c1.mono (fun b hb _ => by cases hb)
   blk := by
    intro b hb
    rcases List.mem_append.1 hb with hb | hb
    ·simp at hb
     exact .inr (by omega)
    ·exact .inl hb
   le := Nat.le_refl _ }⟩
 ·rw [List.concat_eq_append] at hp
  subst hp
  have pc3 := h.pcap
  have hrow := h.prow
  obtain ⟨p, hpb⟩ : ∃ p, L.pb = some p := by
   cases hpb : L.pb with
   | none =>
    rw [hpb] at hrow
    rcases hrow.2 with hh | ⟨g, cap, cur, hv, _⟩
    ·have := hh.2; simp at this
    ·simp [poolVal] at hv
   | some p => exact ⟨p, rfl⟩
  have hi : (pool1 ++ [t])[pool1.length]? = some t := by simp
  obtain ⟨⟨v, a2⟩, l, a3, a4⟩ := h.pthr pool1.length t hi
  rw [hpb] at hrow
  have hcell : w.cell? ⟨p.1, pool1.length, none⟩ = some (.pointer (some ⟨t.1, 0, none⟩)) := by
   rw [hrow.cellAt pool1.length (by simp)]
   simp
  have hcap : (pool1 ++ [t]).length ≤ p.2 := by
   rcases hrow.2 with hh | ⟨g, cap, cur, hv, _, _, hn, _⟩
   ·simp [poolVal] at hh
   ·simp only [poolVal] at hv
    cases hv
    exact hn
  have hpm := perm_pool L q pool1 t
  have hap : ([t.1, t.2] ++ L.blks q pool1 none).Nodup := hpm.nodup_iff.1 h.apart
  have hsub : ∀ b, b ∈ [t.1, t.2] ++ L.blks q pool1 none → b ∈ L.blks q (pool1 ++ [t]) none := fun b hb => hpm.mem_iff.2 hb
  have hT1 : t.1 ∈ [t.1, t.2] ++ L.blks q pool1 none := by simp
  have hT2 : t.2 ∈ [t.1, t.2] ++ L.blks q pool1 none := by simp
  obtain ⟨ap1, ap2, ap3⟩ := List.nodup_append.1 hap
  have hTM : t.1 ≠ L.M := ap3 t.1 (by simp) L.M (AL.mem_blks.2 (.inl rfl))
  have hCM : t.2 ≠ L.M := ap3 t.2 (by simp) L.M (AL.mem_blks.2 (.inl rfl))
  have hTC : t.1 ≠ t.2 := by simpa using ap1
  simp only [List.length_append, List.length_singleton] at c6 hcap pc3
  rw [hpb] at c6
  refine (alloc_pool w L.M p.1 pool1.length p.2 t.1 L.I (pc * 4) v c6 (h.mblk.free 6) hMl hcap (by omega) hcell ((a2.cell 0).trans rfl) (a2.free 0) a2.lt hTM).mono ?_
  rintro e w' ⟨rfl, hw⟩
  have x : Chg [L.M, t.1] w w' := by rw [hw]; exact ((Chg.set w L.M _ _).trans (Chg.set _ t.1 _ _)).mono (fun b hb _ => by simpa using hb)
  have hxN : ∀ b, b ∈ [L.M, t.1] → L.N ≤ b := by
   intro b hb
   simp at hb
   rcases hb with rfl | rfl
   ·exact (hge _ hMm).1
   ·exact (hge _ (hsub _ hT1)).1
  -- the state without the thread, but with the old length of the pool
  obtain ⟨⟨f1, f2, f3, f4, f5, f6, f7, f8, f9, f10⟩, fr⟩ := h.fixed
  have hfix : ∀ b, b ∈ L.blks q pool1 none → b ≠ t.1 := fun b hb e => ap3 t.1 (by simp) b hb e.symm
  have hrest : ∀ b, b ∈ L.rest q pool1 none → b ≠ L.M := fun b hb => by
   have : b ∈ L.rest q (pool1 ++ [t]) none := by
    rcases AL.mem_rest.1 hb with hb | hb | hb | hb
    ·exact AL.mem_rest.2 (.inl hb)
    ·exact AL.mem_rest.2 (.inr (.inl hb))
    ·refine AL.mem_rest.2 (.inr (.inr (.inl ?_)))
     unfold pBlks at hb ⊢
     rw [List.flatMap_append]
     exact List.mem_append_left _ hb
    ·exact AL.mem_rest.2 (.inr (.inr (.inr hb)))
   exact (fr b this).1
  have hnX : ∀ b, b ∈ L.rest q pool1 none → b ∉ [L.M, t.1] := fun b hb hm => by
   simp at hm
   rcases hm with hm | hm
   ·exact hrest b hb hm
   ·exact hfix b (AL.mem_blks.2 (.inr (.inr (.inr (.inr (.inr hb)))))) hm
  have hfx : ∀ b, b = L.S ∨ b = L.D ∨ b = L.F ∨ b = L.CB → b ∉ [L.M, t.1] := fun b hb hm => by
   have hb' : b ∈ L.blks q pool1 none := AL.mem_blks.2 (by
    rcases hb with hb | hb | hb | hb
    ·exact .inr (.inl hb)
    ·exact .inr (.inr (.inl hb))
    ·exact .inr (.inr (.inr (.inl hb)))
    ·exact .inr (.inr (.inr (.inr (.inl hb)))))
   simp at hm
   rcases hm with hm | hm
   ·omega
   ·exact hfix b hb' hm
  have h0 : AddSt L c q (pool1 ++ [t]) none w := h
  obtain ⟨rest, d1, d2⟩ := h.dense
  obtain ⟨sp, s1, s2, s3⟩ := h.sparse
  have bT : Blk w' t.1 [.pointer (some ⟨L.I, pc * 4, none⟩), .slice (some ⟨t.2, 0, none⟩) L.nc L.nc] 212 := by
   have := (a2.set_other hTM 6 (.slice (some ⟨p.1, 0, none⟩) pool1.length p.2)).set 0 (.pointer (some ⟨L.I, pc * 4, none⟩))
   rw [hw]
   exact this
  have bM : Blk w' L.M (L.mCells q.length pool1.length) L.tM := by
   have := (h.mblk.set 6 (poolVal L.pb pool1.length)).set_other (Ne.symm hTM) 0 (.pointer (some ⟨L.I, pc * 4, none⟩))
   rw [AL.mc_pool] at this
   rw [hw]
   rw [hpb] at this
   exact this
  refine ⟨t.1, rfl, t.2, pool1, ?_⟩
  exact
  { st :=
    { prog := h.prog.chg x hxN
      mblk := bM
      dense := ⟨rest, d1.chg x (hfx _ (.inr (.inl rfl))), d2⟩
      sparse := ⟨sp, s1.chg x (hfx _ (.inl rfl)), s2, s3⟩
      pcs := h.pcs
      thr := fun pc' t' ht => by
        obtain ⟨e1, e2, e3⟩ := h.thr pc' t' ht
        obtain ⟨k1, k2⟩ := mem_qBlks (CB := L.CB) ht
        exact ⟨e1.chg x (hnX _ (AL.mem_rest.2 (.inr (.inl k1)))), fun hn => (e2 hn).chg x (hnX _ (AL.mem_rest.2 (.inr (.inl (k2 hn))))), e3⟩
      pthr := fun i t' ht => by
        have hil : i < pool1.length := by
          rcases Nat.lt_or_ge i pool1.length with hh | hh
          · exact hh
          · rw [List.getElem?_eq_none hh] at ht; cases ht
        obtain ⟨⟨v', e2⟩, l', e3, e4⟩ := h.pthr i t' (by rw [List.getElem?_append_left hil]; exact ht)
        obtain ⟨k1, k2⟩ := mem_pBlks ht
        exact ⟨⟨v', e2.chg x (hnX _ (AL.mem_rest.2 (.inr (.inr (.inl k1)))))⟩, l', e3.chg x (hnX _ (AL.mem_rest.2 (.inr (.inr (.inl k2))))), e4⟩
      prow := by
        refine prow_chg ?_ x (fun p' hp' => hnX _ (AL.mem_rest.2 (.inl (by rw [hp']; simp [pbBlk]))))
        rw [hpb]
        rw [List.map_append, List.length_append] at hrow
        exact ownsRow_pop (by simp) hrow
      pcap := by omega
      hthr := fun T hT => by cases hT
      cap := h.cap.chg x (hfx _ (.inr (.inr (.inr rfl))))
      clen := h.clen
      flag := h.flag.chg x (hfx _ (.inr (.inr (.inl rfl))))
      apart := ap2
      ge := fun b hb => by
        have := hge b (hsub b (List.mem_append_right _ hb))
        exact ⟨this.1, Nat.lt_of_lt_of_le this.2 x.size⟩ }
    thr := bT
    cap := ⟨l, a3.chg x (by simp; exact ⟨hCM, Ne.symm hTC⟩), a4⟩
    apart := hap
    ge := ⟨(hge _ (hsub _ hT1)).1, (hge _ (hsub _ hT2)).1⟩
    chg := x.mono (fun b hb _ => by
      simp at hb
      rcases hb with rfl | rfl
      · exact hMm
      · exact hsub _ hT1)
    blk := fun b hb => .inl (hsub b hb)
    le := by simp }

end Go.Proofs.YtkbmigfkclnlaaaGreatDoor
namespace Go.Proofs.YtkbmigfkclnlaaaGreatDoor
open Go.RowKit Go.Rx

structure AddOut (L : AL) (E : Env) (p k pc : Nat) (c : List Int) (q : List CE) (pool : List Th) (hand : Option Nat) (w : World) (q1 : List CE) (pool1 : List Th) (hand1 : Option Nat) (w1 : World) : Prop where
 st : AddSt L c q1 pool1 hand1 w1
 eq : q1.map fg = Env.addF E p k (q.map fg) pc c
 new : New L c q hand q1 hand1
 moved : Moved L q pool hand w q1 pool1 hand1 w1

theorem pcs_fg (q : List CE) : Env.pcs (q.map fg) = q.map (·.1) := by
 unfold Env.pcs
 rw [List.map_map]
 rfl

theorem fg_app (q : List CE) (pc : Nat) (o : Option (Th × List Int)) : (q ++ [(pc, o)]).map fg = q.map fg ++ [(pc, o.map (·.2))] := by simp [fg]

theorem addF_in {E : Env} {p k : Nat} {q : List Env.Entry} {pc : Nat} {c : List Int} (h : pc ∈ Env.pcs q) : Env.addF E p (k + 1) q pc c = q := by
 rw [Env.addF, if_pos (.inr h)]

theorem addF_out {E : Env} {p k : Nat} {q : List Env.Entry} {pc : Nat} {c : List Int} (h0 : 0 < pc) (h : pc ∉ Env.pcs q) : Env.addF E p (k + 1) q pc c =
  (let i := E.prog pc
   if i.op = 0 then Env.addF E p k (Env.addF E p k (q ++ [(pc, none)]) i.out c) i.arg c
   else if i.op = 2 then Env.addF E p k (q ++ [(pc, none)]) i.out (if i.arg < c.length then c.set i.arg p else c)
   else if i.op = 3 then if E.ew i.arg p then Env.addF E p k (q ++ [(pc, none)]) i.out c else q ++ [(pc, none)]
   else if i.op = 5 then q ++ [(pc, none)]
   else if i.op = 6 then Env.addF E p k (q ++ [(pc, none)]) i.out c
   else q ++ [(pc, some c)]) := by
 rw [Env.addF, if_neg (fun hh => hh.elim (fun e => by omega) h)]

structure AEnv (L : AL) (E : Env) (p : Nat) : Prop where
 ok : E.Ok
 prog : ∀ pc, 0 < pc → pc < L.np → E.prog pc = L.pg pc
 ew4 : ∀ w, Calls Tryz.prog 121 #[.int .u64 L.fl, .int .u8 4] w fun e w' => e = .returned (.bool (E.ew 4 p)) ∧ w' = w
 ew8 : ∀ w, Calls Tryz.prog 121 #[.int .u64 L.fl, .int .u8 8] w fun e w' => e = .returned (.bool (E.ew 8 p)) ∧ w' = w

section
variable {L : AL} {E : Env} {p k pc : Nat} {c : List Int} {q : List CE} {pool : List Th} {hand : Option Nat} {w : World} {Q : Exit → Act → World → Prop}

def GotoOk (L : AL) (E : Env) (p k pc : Nat) (c : List Int) (q : List CE) (pool : List Th) (hand : Option Nat) (w : World) (Q : Exit → Act → World → Prop) : Prop :=
 ∀ a' pc1 q1 pool1 hand1 w1, E.rank pc1 < k → 0 < pc1 → pc1 < L.np → AF L.M L.qo pc1 p L.CB L.nc L.F (handPtr hand1) a' → AddSt L c q1 pool1 hand1 w1 → New L c q hand q1 hand1 → Moved L q pool hand w q1 pool1 hand1 w1 →
  Env.addF E p k (q1.map fg) pc1 c = Env.addF E p (k + 1) (q.map fg) pc c → Q (.goto 0) a' w1
def RetOk (L : AL) (E : Env) (p k pc : Nat) (c : List Int) (q : List CE) (pool : List Th) (hand : Option Nat) (w : World) (Q : Exit → Act → World → Prop) : Prop :=
 ∀ a' q1 pool1 hand1 w1, a'.tmps.size = 226 → a'.defers = [] → a'.tmps.getD 14 undef = handPtr hand1 → AddOut L E p (k + 1) pc c q pool hand w q1 pool1 hand1 w1 → Q .ret a' w1
def CallOk (L : AL) (E : Env) (p k : Nat) : Prop :=
 ∀ pc' c' q' pool' hand' w', E.rank pc' < k → 0 < pc' → pc' < L.np → AddSt L c' q' pool' hand' w' →
  Calls Tryz.prog 108 #[.pointer (some ⟨L.M, 0, none⟩), .pointer (some ⟨L.M, L.qo, none⟩), .int .u32 pc', .int .i64 p, .slice (some ⟨L.CB, 0, none⟩) L.nc L.nc, .pointer (some ⟨L.F, 0, none⟩), handPtr hand'] w' fun e w1 =>
   ∃ q1 pool1 hand1, e = .returned (handPtr hand1) ∧ AddOut L E p k pc' c' q' pool' hand' w' q1 pool1 hand1 w1

theorem New.one (L : AL) (c : List Int) (q : List CE) (hand : Option Nat) (pc : Nat) : New L c q hand (q ++ [(pc, none)]) hand :=
 ⟨⟨[(pc, none)], rfl, fun e he t ht => by simp at he; subst he; cases ht⟩, .inl rfl⟩

theorem old_state {T : Nat} (st : AddSt L c (q ++ [(pc, none)]) pool (some T) w) {w2 : World} (hw2 : w2 = w.setCell ⟨T, 0, none⟩ (.pointer (some ⟨L.I, pc * 4, none⟩))) (y : Ext w2) :
  AddSt L c (q ++ [(pc, some ((T, L.CB), c))]) pool none (y.now.setCell ⟨L.D, q.length * 2 + 1, none⟩ (.pointer (some ⟨T, 0, none⟩))) ∧
  Moved L (q ++ [(pc, none)]) pool (some T) w (q ++ [(pc, some ((T, L.CB), c))]) pool none (y.now.setCell ⟨L.D, q.length * 2 + 1, none⟩ (.pointer (some ⟨T, 0, none⟩))) := by
 obtain ⟨st0, hTn⟩ := st.drop
 obtain ⟨v, hT⟩ := st.hthr T rfl
 have hTm : T ∈ L.blks (q ++ [(pc, none)]) pool (some T) := by rw [AL.blks_hand]; exact List.mem_append_right _ (by simp [hBlks])
 have hTN := (st.ge T hTm).1
 have x2 : Chg [T] w w2 := by rw [hw2]; exact Chg.set _ _ _ _
 have xy := x2.trans (Chg.of_below y.below)
 have st1 : AddSt L c (q ++ [(pc, none)]) pool none y.now := st0.away xy (fun b hb hm => by simp at hm; subst hm; exact hTn hb) (fun b hb => by simp at hb; rw [hb]; exact hTN)
 have bT : Blk y.now T [.pointer (some ⟨L.I, pc * 4, none⟩), .slice (some ⟨L.CB, 0, none⟩) L.nc L.nc] 212 := by
  have := hT.set 0 (.pointer (some ⟨L.I, pc * 4, none⟩))
  rw [← hw2] at this
  exact this.chg (Chg.of_below y.below) (by simp)
 have ho : oBlks L.CB (some ((T, L.CB), c)) = [T] := by simp [oBlks]
 have hpm := perm_put L q pc ((T, L.CB), c) pool
 rw [ho] at hpm
 refine ⟨st1.put ((T, L.CB), c) bT (fun h => absurd rfl h) st.clen ?_ ?_, ?_, ?_, Nat.le_refl _⟩
 ·rw [ho]
  have := st.apart
  rw [AL.blks_hand] at this
  exact (List.perm_append_comm.nodup_iff).1 this
 ·rw [ho]
  intro b hb
  simp at hb
  subst hb
  exact ⟨hTN, bT.lt⟩
 ·refine (xy.trans (Chg.set y.now L.D _ _)).mono (fun b hb _ => ?_)
  simp at hb
  rcases hb with rfl | rfl
  ·exact hTm
  ·exact AL.mem_blks.2 (.inr (.inr (.inl rfl)))
 ·intro b hb
  rcases List.mem_append.1 (hpm.mem_iff.1 hb) with hb | hb
  ·simp at hb; subst hb; exact .inl hTm
  ·exact .inl (by rw [AL.blks_hand]; exact List.mem_append_left _ hb)

theorem new_state {T CT : Nat} {pool1 : List Th} {w' w2 : World} (st : AddSt L c (q ++ [(pc, none)]) pool none w) (g : Got L c (q ++ [(pc, none)]) pool w pc T CT pool1 w') (hC : Blk w2 CT (intCells c) 3) (x : Chg [CT] w' w2) :
  AddSt L c (q ++ [(pc, some ((T, CT), c))]) pool1 none (w2.setCell ⟨L.D, q.length * 2 + 1, none⟩ (.pointer (some ⟨T, 0, none⟩))) ∧
  Moved L (q ++ [(pc, none)]) pool none w (q ++ [(pc, some ((T, CT), c))]) pool1 none (w2.setCell ⟨L.D, q.length * 2 + 1, none⟩ (.pointer (some ⟨T, 0, none⟩))) := by
 obtain ⟨ap1, ap2, ap3⟩ := List.nodup_append.1 g.apart
 have hTC : T ≠ CT := by simpa using ap1
 have hCn : CT ∉ L.blks (q ++ [(pc, none)]) pool1 none := fun h => ap3 CT (by simp) CT h rfl
 have st1 := g.st.away x (fun b hb hm => by simp at hm; subst hm; exact hCn hb) (fun b hb => by simp at hb; rw [hb]; exact g.ge.2)
 have hCC : CT ≠ L.CB := fun h => ap3 CT (by simp) L.CB (AL.mem_blks.2 (.inr (.inr (.inr (.inr (.inl rfl)))))) h
 have bT := g.thr.chg x (by simpa using hTC)
 have ho : oBlks L.CB (some ((T, CT), c)) = [T, CT] := by simp [oBlks, hCC]
 have hpm := perm_put L q pc ((T, CT), c) pool1
 rw [ho] at hpm
 refine ⟨st1.put ((T, CT), c) bT (fun _ => hC) st.clen ?_ ?_, ?_, ?_, g.le⟩
 ·rw [ho]; exact g.apart
 ·rw [ho]
  intro b hb
  simp at hb
  rcases hb with rfl | rfl
  ·exact ⟨g.ge.1, bT.lt⟩
  ·exact ⟨g.ge.2, hC.lt⟩
 ·refine ((g.chg.trans x).trans (Chg.set w2 L.D _ _)).mono (fun b hb hlt => ?_)
  rcases List.mem_append.1 hb with hb | hb
  ·rcases List.mem_append.1 hb with hb | hb
   ·exact hb
   ·simp at hb
    subst hb
    rcases g.blk b (by simp) with h | h
    ·exact h
    ·omega
  ·simp at hb
   rw [hb]
   exact AL.mem_blks.2 (.inr (.inr (.inl rfl)))
 ·intro b hb
  exact g.blk b (hpm.mem_iff.1 hb)

theorem sw_sim (ok : AOk L) (ae : AEnv L E p) (hr : E.rank pc < k + 1) (hp0 : 0 < pc) (hpc : pc < L.np) (hn : pc ∉ q.map (·.1)) (st : AddSt L c (q ++ [(pc, none)]) pool hand w) {w0 : World} (mv : Moved L q pool hand w0 (q ++ [(pc, none)]) pool hand w)
  (ih : CallOk L E p k) (hg : GotoOk L E p k pc c q pool hand w0 Q) (hret : RetOk L E p k pc c q pool hand w0 Q) {a : Act} (hf : AG L.M L.qo pc p L.CB L.nc L.F (handPtr hand) L.D q.length a) : Ent addSw Q a w := by
 have hnp := ok.np.2
 have hprog := ae.prog pc hp0 hpc
 have hm1 : w.cell? ⟨L.M, 1, none⟩ = some (.pointer (some ⟨L.PR, 0, none⟩)) := (st.mblk.cell 1).trans (AL.mc ok _ _).1
 have hnn : pc ∉ Env.pcs (q.map fg) := by rw [pcs_fg]; exact hn
 have hadd := addF_out (E := E) (p := p) (k := k) (c := c) hp0 hnn
 rw [hprog] at hadd
 have hnew := New.one L c q hand pc
 have hnc := ok.nc
 have hge := st.ge
 rcases ok.ops pc hp0 hpc with hop | hop | hop | hop | hop | hop | hop
 ·-- alternatives
  obtain ⟨o1, o2⟩ := ok.out pc hp0 hpc (by omega)
  obtain ⟨o3, o4⟩ := ok.alt pc hp0 hpc hop
  obtain ⟨r1, r2⟩ := ae.ok.alt pc (by rw [hprog]; exact hop)
  rw [hprog] at r1 r2
  simp only [hop, if_true] at hadd
  refine add_alt_f L.M L.qo pc p L.CB L.nc L.F (handPtr hand) w Q L.N L.R L.PR L.I L.np L.pg st.prog hp0 hpc hnp hm1 L.D q.length hop
   (fun t w' => ∃ q1 pool1 hand1, t = handPtr hand1 ∧ AddOut L E p k (L.pg pc).out c (q ++ [(pc, none)]) pool hand w q1 pool1 hand1 w') ?_ ?_ ?_ hf
  ·refine (ih (L.pg pc).out c (q ++ [(pc, none)]) pool hand w (by omega) o1 o2 st).mono ?_
   rintro e w' ⟨q1, pool1, hand1, rfl, ho⟩
   exact ⟨_, rfl, q1, pool1, hand1, rfl, ho⟩
  ·rintro t w' ⟨q1, pool1, hand1, rfl, ho⟩
   exact ho.st.prog
  ·rintro a' t w' ⟨q1, pool1, hand1, rfl, ho⟩ hf'
   refine hg a' (L.pg pc).arg q1 pool1 hand1 w' (by omega) o3 o4 hf' ho.st (hnew.trans ho.new) (mv.trans ho.moved) ?_
   rw [hadd, ho.eq, fg_app]
   rfl
 ·-- a capture
  obtain ⟨o1, o2⟩ := ok.out pc hp0 hpc (by omega)
  have hK := ok.cap pc hp0 hpc hop
  have r1 := ae.ok.free pc (.inl (by rw [hprog]; exact hop))
  rw [hprog] at r1
  simp only [hop, show ¬ (2 : Nat) = 0 by decide, if_false, if_true] at hadd
  have hcl := st.clen
  have hKl : (L.pg pc).arg < c.length := by omega
  rw [if_pos hKl] at hadd
  obtain ⟨v, hv⟩ : ∃ v, c[(L.pg pc).arg]? = some v := ⟨_, List.getElem?_eq_getElem hKl⟩
  have hvc : w.cell? ⟨L.CB, (L.pg pc).arg, none⟩ = some (.int .i64 v) := by rw [st.cap.cell]; unfold intCells; rw [List.getElem?_map, hv]; rfl
  have hCBm : L.CB ∈ L.blks (q ++ [(pc, none)]) pool hand := AL.mem_blks.2 (.inr (.inr (.inr (.inr (.inl rfl)))))
  have hIC : L.I ≠ L.CB := by have h1 := st.prog.lt.2.2; have h2 := (hge _ hCBm).1; omega
  have st0 : AddSt L c (q ++ [(pc, none)]) pool none w ∧ ∀ T, hand = some T → T ∉ L.blks (q ++ [(pc, none)]) pool none := by
   cases hand with
   | none => exact ⟨st, fun T hT => by cases hT⟩
   | some T => exact ⟨st.drop.1, fun T' hT => by cases hT; exact st.drop.2⟩
  have st1 := st0.1.setcap (L.pg pc).arg (p : Int)
  have hcg : Chg [L.CB] w (w.setCell ⟨L.CB, (L.pg pc).arg, none⟩ (.int .i64 p)) := Chg.set _ _ _ _
  refine add_cap_f L.M L.qo pc p L.CB L.nc L.F (handPtr hand) w Q L.N L.R L.PR L.I L.np L.pg st.prog hp0 hpc hnp hm1 L.D q.length hop hK (by omega) v hvc (st.cap.free _) (hge _ hCBm).2 hIC
   (fun w' => ∃ q1 pool1, AddOut L E p k (L.pg pc).out (c.set (L.pg pc).arg p) (q ++ [(pc, none)]) pool none (w.setCell ⟨L.CB, (L.pg pc).arg, none⟩ (.int .i64 p)) q1 pool1 none w') ?_ ?_ ?_ hf
  ·refine (ih (L.pg pc).out _ (q ++ [(pc, none)]) pool none _ (by omega) o1 o2 st1).mono ?_
   rintro e w' ⟨q1, pool1, hand1, rfl, ho⟩
   have : hand1 = none := by rcases ho.new.2 with h | h <;> exact h
   subst this
   exact ⟨_, rfl, q1, pool1, ho⟩
  ·rintro w' ⟨q1, pool1, ho⟩
   refine ⟨ho.st.prog, ?_, ho.st.cap.free _, ho.st.cap.lt⟩
   have := ho.st.clen
   rw [ho.st.cap.cell]
   exact ⟨_, List.getElem?_eq_getElem (by unfold intCells; simp only [List.length_map]; omega)⟩
  ·rintro a' w' ⟨q1, pool1, ho⟩ s1 s2 s3
   have hback : (c.set (L.pg pc).arg (p : Int)).set (L.pg pc).arg v = c := by
    rw [List.set_set]
    have : v = c[(L.pg pc).arg] := by rw [List.getElem?_eq_getElem hKl] at hv; exact (Option.some.inj hv).symm
    rw [this]
    exact List.set_getElem_self hKl
   have st2 := ho.st.setcap (L.pg pc).arg v
   rw [hback] at st2
   have hcg2 : Chg [L.CB] w' (w'.setCell ⟨L.CB, (L.pg pc).arg, none⟩ (.int .i64 v)) := Chg.set _ _ _ _
   have hpre : ∀ b, b ∈ L.blks (q ++ [(pc, none)]) pool none → b ∈ L.blks (q ++ [(pc, none)]) pool hand := fun b hb => by rw [AL.blks_hand]; exact List.mem_append_left _ hb
   have hchg : Chg (L.blks (q ++ [(pc, none)]) pool none) w (w'.setCell ⟨L.CB, (L.pg pc).arg, none⟩ (.int .i64 v)) := by
    have hCB0 : L.CB ∈ L.blks (q ++ [(pc, none)]) pool none := AL.mem_blks.2 (.inr (.inr (.inr (.inr (.inl rfl)))))
    refine ((hcg.trans ho.moved.chg).trans hcg2).mono (fun b hb _ => ?_)
    rcases List.mem_append.1 hb with hb | hb
    ·rcases List.mem_append.1 hb with hb | hb
     ·simp at hb; rw [hb]; exact hCB0
     ·exact hb
    ·simp at hb; rw [hb]; exact hCB0
   have hsz : w.heap.size = (w.setCell ⟨L.CB, (L.pg pc).arg, none⟩ (.int .i64 p)).heap.size := by simp [World.setCell]
   have hblk : ∀ b, b ∈ L.blks q1 pool1 none → b ∈ L.blks (q ++ [(pc, none)]) pool none ∨ w.heap.size ≤ b := fun b hb => by
    rcases ho.moved.blk b hb with h | h
    ·exact .inl h
    ·exact .inr (by rw [hsz]; exact h)
   have st3 : AddSt L c q1 pool1 hand (w'.setCell ⟨L.CB, (L.pg pc).arg, none⟩ (.int .i64 v)) := by
    cases hh : hand with
    | none => exact st2
    | some T =>
     subst hh
     obtain ⟨vT, hT⟩ := st.hthr T rfl
     have hTn := st0.2 T rfl
     have hTm : T ∈ L.blks (q ++ [(pc, none)]) pool (some T) := by rw [AL.blks_hand]; exact List.mem_append_right _ (by simp [hBlks])
     refine st2.take (hT.chg hchg hTn) (fun hm => ?_) (hge T hTm).1
     rcases hblk T hm with h | h
     ·exact hTn h
     ·have := hT.lt; omega
   obtain ⟨⟨new, e1, e2⟩, _⟩ := ho.new
   refine hret a' q1 pool1 hand _ s1 s2 s3 ⟨st3, ?_, ?_, ?_⟩
   ·rw [hadd, ho.eq, fg_app]
    rfl
   ·refine ⟨⟨(pc, none) :: new, by rw [e1]; simp, ?_⟩, .inl rfl⟩
    intro e he t ht hc
    rcases List.mem_cons.1 he with rfl | he
    ·cases ht
    ·have := (e2 e he t ht hc).1
     cases this
   ·refine mv.trans ⟨hchg.mono (fun b hb _ => hpre b hb), fun b hb => ?_, ho.moved.le⟩
    rw [AL.blks_hand] at hb
    rcases List.mem_append.1 hb with hb | hb
    ·rcases hblk b hb with h | h
     ·exact .inl (hpre b h)
     ·exact .inr h
    ·exact .inl (by rw [AL.blks_hand]; exact List.mem_append_right _ hb)
 ·-- an empty width
  obtain ⟨o1, o2⟩ := ok.out pc hp0 hpc (by omega)
  have r1 := ae.ok.free pc (.inr (.inl (by rw [hprog]; exact hop)))
  rw [hprog] at r1
  simp only [hop, show ¬ (3 : Nat) = 0 by decide, show ¬ (3 : Nat) = 2 by decide, if_false, if_true] at hadd
  have hFl := (hge L.F (AL.mem_blks.2 (.inr (.inr (.inr (.inl rfl)))))).2
  have go : ∀ (y : Ext w), AddSt L c (q ++ [(pc, none)]) pool hand y.now ∧ Moved L q pool hand w0 (q ++ [(pc, none)]) pool hand y.now := fun y => by
   have cy := Chg.of_below y.below
   exact ⟨st.away cy (fun b _ hm => by cases hm) (fun b hb => by cases hb), mv.trans ⟨cy.mono (fun b hb _ => by cases hb), fun b hb => .inl hb, Nat.le_refl _⟩⟩
  rcases ok.ew pc hp0 hpc hop with har | har
  ·have hm := ae.ew4
   rw [har] at hadd
   cases hw : E.ew 4 p with
   | true =>
    rw [hw] at hm hadd
    simp only [if_true] at hadd
    refine add_empty4t_f L.M L.qo pc p L.CB L.nc L.F (handPtr hand) w Q L.N L.R L.PR L.I L.np L.pg st.prog hp0 hpc hnp hm1 L.D q.length hop har L.fl ((st.flag.cell 0).trans rfl) hFl hm ?_ hf
    intro a' hf' y
    exact hg a' _ _ pool hand y.now (by omega) o1 o2 hf' (go y).1 hnew (go y).2 (by rw [hadd, fg_app]; rfl)
   | false =>
    rw [hw] at hm hadd
    simp only [Bool.false_eq_true, if_false] at hadd
    refine add_empty4f_f L.M L.qo pc p L.CB L.nc L.F (handPtr hand) w Q L.N L.R L.PR L.I L.np L.pg st.prog hp0 hpc hnp hm1 L.D q.length hop har L.fl ((st.flag.cell 0).trans rfl) hFl hm ?_ hf
    intro a' s1 s2 s3 y
    exact hret a' _ pool hand y.now s1 s2 s3 ⟨(go y).1, by rw [hadd, fg_app]; rfl, hnew, (go y).2⟩
  ·have hm := ae.ew8
   rw [har] at hadd
   cases hw : E.ew 8 p with
   | true =>
    rw [hw] at hm hadd
    simp only [if_true] at hadd
    refine add_empty8t_f L.M L.qo pc p L.CB L.nc L.F (handPtr hand) w Q L.N L.R L.PR L.I L.np L.pg st.prog hp0 hpc hnp hm1 L.D q.length hop har L.fl ((st.flag.cell 0).trans rfl) hFl hm ?_ hf
    intro a' hf' y
    exact hg a' _ _ pool hand y.now (by omega) o1 o2 hf' (go y).1 hnew (go y).2 (by rw [hadd, fg_app]; rfl)
   | false =>
    rw [hw] at hm hadd
    simp only [Bool.false_eq_true, if_false] at hadd
    refine add_empty8f_f L.M L.qo pc p L.CB L.nc L.F (handPtr hand) w Q L.N L.R L.PR L.I L.np L.pg st.prog hp0 hpc hnp hm1 L.D q.length hop har L.fl ((st.flag.cell 0).trans rfl) hFl hm ?_ hf
    intro a' s1 s2 s3 y
    exact hret a' _ pool hand y.now s1 s2 s3 ⟨(go y).1, by rw [hadd, fg_app]; rfl, hnew, (go y).2⟩
 ·-- a thread
  have hone : ∀ u ∈ intCells c, u.oneCell' = true := by
   intro u hu
   unfold intCells at hu
   obtain ⟨x, _, rfl⟩ := List.mem_map.1 hu
   rfl
  simp only [hop, show ¬ (4 : Nat) = 0 by decide, show ¬ (4 : Nat) = 2 by decide, show ¬ (4 : Nat) = 3 by decide, show ¬ (4 : Nat) = 5 by decide, show ¬ (4 : Nat) = 6 by decide, if_false] at hadd
  have hDl := (hge L.D (AL.mem_blks.2 (.inr (.inr (.inl rfl))))).2
  obtain ⟨rest, d1, d2⟩ := st.dense
  have hcellD : w.cell? ⟨L.D, q.length * 2 + 1, none⟩ = some (.pointer none) := by
   rw [d1.cell, (dense_at (q ++ [(pc, none)]) rest q.length (pc, none) (by simp)).2]
   rfl
  cases hh : hand with
  | none =>
   subst hh
   refine add_new4_f L.M L.qo pc p L.CB L.nc L.F w Q L.N L.R L.PR L.I L.np L.pg st.prog hp0 hpc hnp hm1 L.D q.length hop (by omega) (by omega) (intCells c) 3 (by unfold intCells; rw [List.length_map]; exact st.clen) hone
    (fun T w' => ∃ CT pool1, Got L c (q ++ [(pc, none)]) pool w pc T CT pool1 w') (alloc_st ok st pc) ?_ ?_ hf
   ·rintro T w' ⟨CT, pool1, g⟩
    obtain ⟨ap1, ap2, ap3⟩ := List.nodup_append.1 g.apart
    obtain ⟨l, b2, b3⟩ := g.cap
    obtain ⟨rest', e1, e2⟩ := g.st.dense
    refine ⟨CT, l, .pointer none, (g.thr.cell 1).trans rfl, g.thr.lt, fun h => ap3 CT (by simp) L.CB (AL.mem_blks.2 (.inr (.inr (.inr (.inr (.inl rfl)))))) h, fun h => ap3 CT (by simp) L.D (AL.mem_blks.2 (.inr (.inr (.inl rfl)))) h, b2, b3, g.st.cap, ?_, e1.free _, e1.lt⟩
    rw [e1.cell, (dense_at (q ++ [(pc, none)]) rest' q.length (pc, none) (by simp)).2]
    rfl
   ·rintro a' T CT w' w2 s1 s2 s3 ⟨CT', pool1, g⟩ hcell hC x
    have hce : CT' = CT := by
     have := (g.thr.cell 1).symm.trans hcell
     simp at this
     exact this
    subst hce
    obtain ⟨n1, n2⟩ := new_state st g hC x
    have hCC : CT' ≠ L.CB := fun h => (List.nodup_append.1 g.apart).2.2 CT' (by simp) L.CB (AL.mem_blks.2 (.inr (.inr (.inr (.inr (.inl rfl)))))) h
    refine hret a' _ pool1 none _ s1 s2 s3 ⟨n1, by rw [hadd, fg_app]; rfl, ?_, mv.trans n2⟩
    refine ⟨⟨[(pc, some ((T, CT'), c))], rfl, ?_⟩, .inl rfl⟩
    intro e he t ht hc
    simp at he
    subst he
    simp at ht
    subst ht
    exact absurd hc hCC
  | some T =>
   subst hh
   obtain ⟨v, hT⟩ := st.hthr T rfl
   have hTm : T ∈ L.blks (q ++ [(pc, none)]) pool (some T) := by rw [AL.blks_hand]; exact List.mem_append_right _ (by simp [hBlks])
   have hTD : T ≠ L.D := fun h => st.drop.2 (by rw [h]; exact AL.mem_blks.2 (.inr (.inr (.inl rfl))))
   refine add_old4_f L.M L.qo pc p L.CB L.nc L.F T w Q L.N L.R L.PR L.I L.np L.pg st.prog hp0 hpc hnp hm1 L.D q.length hop (by omega) (by omega) v ((hT.cell 0).trans rfl) ((hT.cell 1).trans rfl) (hT.free 0) hT.lt (.pointer none) hcellD (d1.free _) hDl hTD ?_ hf
   intro a' s1 s2 s3 w2 hw2 y
   obtain ⟨n1, n2⟩ := old_state st hw2 y
   refine hret a' _ pool none _ s1 s2 s3 ⟨n1, by rw [hadd, fg_app]; rfl, ?_, mv.trans n2⟩
   refine ⟨⟨[(pc, some ((T, L.CB), c))], rfl, ?_⟩, .inr rfl⟩
   intro e he t ht hc
   simp at he
   subst he
   simp at ht
   subst ht
   exact ⟨rfl, rfl, rfl⟩
 ·-- no operation
  obtain ⟨o1, o2⟩ := ok.out pc hp0 hpc (by omega)
  have r1 := ae.ok.free pc (.inr (.inr (by rw [hprog]; exact hop)))
  rw [hprog] at r1
  simp only [hop, show ¬ (6 : Nat) = 0 by decide, show ¬ (6 : Nat) = 2 by decide, show ¬ (6 : Nat) = 3 by decide, show ¬ (6 : Nat) = 5 by decide, if_false, if_true] at hadd
  refine add_nop_f L.M L.qo pc p L.CB L.nc L.F (handPtr hand) w Q L.N L.R L.PR L.I L.np L.pg st.prog hp0 hpc hnp hm1 L.D q.length hop ?_ hf
  intro a' hf'
  exact hg a' _ _ pool hand w (by omega) o1 o2 hf' st hnew mv (by rw [hadd, fg_app]; rfl)
 ·-- a thread
  have hone : ∀ u ∈ intCells c, u.oneCell' = true := by
   intro u hu
   unfold intCells at hu
   obtain ⟨x, _, rfl⟩ := List.mem_map.1 hu
   rfl
  simp only [hop, show ¬ (7 : Nat) = 0 by decide, show ¬ (7 : Nat) = 2 by decide, show ¬ (7 : Nat) = 3 by decide, show ¬ (7 : Nat) = 5 by decide, show ¬ (7 : Nat) = 6 by decide, if_false] at hadd
  have hDl := (hge L.D (AL.mem_blks.2 (.inr (.inr (.inl rfl))))).2
  obtain ⟨rest, d1, d2⟩ := st.dense
  have hcellD : w.cell? ⟨L.D, q.length * 2 + 1, none⟩ = some (.pointer none) := by
   rw [d1.cell, (dense_at (q ++ [(pc, none)]) rest q.length (pc, none) (by simp)).2]
   rfl
  cases hh : hand with
  | none =>
   subst hh
   refine add_new7_f L.M L.qo pc p L.CB L.nc L.F w Q L.N L.R L.PR L.I L.np L.pg st.prog hp0 hpc hnp hm1 L.D q.length hop (by omega) (by omega) (intCells c) 3 (by unfold intCells; rw [List.length_map]; exact st.clen) hone
    (fun T w' => ∃ CT pool1, Got L c (q ++ [(pc, none)]) pool w pc T CT pool1 w') (alloc_st ok st pc) ?_ ?_ hf
   ·rintro T w' ⟨CT, pool1, g⟩
    obtain ⟨ap1, ap2, ap3⟩ := List.nodup_append.1 g.apart
    obtain ⟨l, b2, b3⟩ := g.cap
    obtain ⟨rest', e1, e2⟩ := g.st.dense
    refine ⟨CT, l, .pointer none, (g.thr.cell 1).trans rfl, g.thr.lt, fun h => ap3 CT (by simp) L.CB (AL.mem_blks.2 (.inr (.inr (.inr (.inr (.inl rfl)))))) h, fun h => ap3 CT (by simp) L.D (AL.mem_blks.2 (.inr (.inr (.inl rfl)))) h, b2, b3, g.st.cap, ?_, e1.free _, e1.lt⟩
    rw [e1.cell, (dense_at (q ++ [(pc, none)]) rest' q.length (pc, none) (by simp)).2]
    rfl
   ·rintro a' T CT w' w2 s1 s2 s3 ⟨CT', pool1, g⟩ hcell hC x
    have hce : CT' = CT := by
     have := (g.thr.cell 1).symm.trans hcell
     simp at this
     exact this
    subst hce
    obtain ⟨n1, n2⟩ := new_state st g hC x
    have hCC : CT' ≠ L.CB := fun h => (List.nodup_append.1 g.apart).2.2 CT' (by simp) L.CB (AL.mem_blks.2 (.inr (.inr (.inr (.inr (.inl rfl)))))) h
    refine hret a' _ pool1 none _ s1 s2 s3 ⟨n1, by rw [hadd, fg_app]; rfl, ?_, mv.trans n2⟩
    refine ⟨⟨[(pc, some ((T, CT'), c))], rfl, ?_⟩, .inl rfl⟩
    intro e he t ht hc
    simp at he
    subst he
    simp at ht
    subst ht
    exact absurd hc hCC
  | some T =>
   subst hh
   obtain ⟨v, hT⟩ := st.hthr T rfl
   have hTm : T ∈ L.blks (q ++ [(pc, none)]) pool (some T) := by rw [AL.blks_hand]; exact List.mem_append_right _ (by simp [hBlks])
   have hTD : T ≠ L.D := fun h => st.drop.2 (by rw [h]; exact AL.mem_blks.2 (.inr (.inr (.inl rfl))))
   refine add_old7_f L.M L.qo pc p L.CB L.nc L.F T w Q L.N L.R L.PR L.I L.np L.pg st.prog hp0 hpc hnp hm1 L.D q.length hop (by omega) (by omega) v ((hT.cell 0).trans rfl) ((hT.cell 1).trans rfl) (hT.free 0) hT.lt (.pointer none) hcellD (d1.free _) hDl hTD ?_ hf
   intro a' s1 s2 s3 w2 hw2 y
   obtain ⟨n1, n2⟩ := old_state st hw2 y
   refine hret a' _ pool none _ s1 s2 s3 ⟨n1, by rw [hadd, fg_app]; rfl, ?_, mv.trans n2⟩
   refine ⟨⟨[(pc, some ((T, L.CB), c))], rfl, ?_⟩, .inr rfl⟩
   intro e he t ht hc
   simp at he
   subst he
   simp at ht
   subst ht
   exact ⟨rfl, rfl, rfl⟩
 ·-- a thread
  have hone : ∀ u ∈ intCells c, u.oneCell' = true := by
   intro u hu
   unfold intCells at hu
   obtain ⟨x, _, rfl⟩ := List.mem_map.1 hu
   rfl
  simp only [hop, show ¬ (8 : Nat) = 0 by decide, show ¬ (8 : Nat) = 2 by decide, show ¬ (8 : Nat) = 3 by decide, show ¬ (8 : Nat) = 5 by decide, show ¬ (8 : Nat) = 6 by decide, if_false] at hadd
  have hDl := (hge L.D (AL.mem_blks.2 (.inr (.inr (.inl rfl))))).2
  obtain ⟨rest, d1, d2⟩ := st.dense
  have hcellD : w.cell? ⟨L.D, q.length * 2 + 1, none⟩ = some (.pointer none) := by
   rw [d1.cell, (dense_at (q ++ [(pc, none)]) rest q.length (pc, none) (by simp)).2]
   rfl
  cases hh : hand with
  | none =>
   subst hh
   refine add_new8_f L.M L.qo pc p L.CB L.nc L.F w Q L.N L.R L.PR L.I L.np L.pg st.prog hp0 hpc hnp hm1 L.D q.length hop (by omega) (by omega) (intCells c) 3 (by unfold intCells; rw [List.length_map]; exact st.clen) hone
    (fun T w' => ∃ CT pool1, Got L c (q ++ [(pc, none)]) pool w pc T CT pool1 w') (alloc_st ok st pc) ?_ ?_ hf
   ·rintro T w' ⟨CT, pool1, g⟩
    obtain ⟨ap1, ap2, ap3⟩ := List.nodup_append.1 g.apart
    obtain ⟨l, b2, b3⟩ := g.cap
    obtain ⟨rest', e1, e2⟩ := g.st.dense
    refine ⟨CT, l, .pointer none, (g.thr.cell 1).trans rfl, g.thr.lt, fun h => ap3 CT (by simp) L.CB (AL.mem_blks.2 (.inr (.inr (.inr (.inr (.inl rfl)))))) h, fun h => ap3 CT (by simp) L.D (AL.mem_blks.2 (.inr (.inr (.inl rfl)))) h, b2, b3, g.st.cap, ?_, e1.free _, e1.lt⟩
    rw [e1.cell, (dense_at (q ++ [(pc, none)]) rest' q.length (pc, none) (by simp)).2]
    rfl
   ·rintro a' T CT w' w2 s1 s2 s3 ⟨CT', pool1, g⟩ hcell hC x
    have hce : CT' = CT := by
     have := (g.thr.cell 1).symm.trans hcell
     simp at this
     exact this
    subst hce
    obtain ⟨n1, n2⟩ := new_state st g hC x
    have hCC : CT' ≠ L.CB := fun h => (List.nodup_append.1 g.apart).2.2 CT' (by simp) L.CB (AL.mem_blks.2 (.inr (.inr (.inr (.inr (.inl rfl)))))) h
    refine hret a' _ pool1 none _ s1 s2 s3 ⟨n1, by rw [hadd, fg_app]; rfl, ?_, mv.trans n2⟩
    refine ⟨⟨[(pc, some ((T, CT'), c))], rfl, ?_⟩, .inl rfl⟩
    intro e he t ht hc
    simp at he
    subst he
    simp at ht
    subst ht
    exact absurd hc hCC
  | some T =>
   subst hh
   obtain ⟨v, hT⟩ := st.hthr T rfl
   have hTm : T ∈ L.blks (q ++ [(pc, none)]) pool (some T) := by rw [AL.blks_hand]; exact List.mem_append_right _ (by simp [hBlks])
   have hTD : T ≠ L.D := fun h => st.drop.2 (by rw [h]; exact AL.mem_blks.2 (.inr (.inr (.inl rfl))))
   refine add_old8_f L.M L.qo pc p L.CB L.nc L.F T w Q L.N L.R L.PR L.I L.np L.pg st.prog hp0 hpc hnp hm1 L.D q.length hop (by omega) (by omega) v ((hT.cell 0).trans rfl) ((hT.cell 1).trans rfl) (hT.free 0) hT.lt (.pointer none) hcellD (d1.free _) hDl hTD ?_ hf
   intro a' s1 s2 s3 w2 hw2 y
   obtain ⟨n1, n2⟩ := old_state st hw2 y
   refine hret a' _ pool none _ s1 s2 s3 ⟨n1, by rw [hadd, fg_app]; rfl, ?_, mv.trans n2⟩
   refine ⟨⟨[(pc, some ((T, L.CB), c))], rfl, ?_⟩, .inr rfl⟩
   intro e he t ht hc
   simp at he
   subst he
   simp at ht
   subst ht
   exact ⟨rfl, rfl, rfl⟩
end

end Go.Proofs.YtkbmigfkclnlaaaGreatDoor
