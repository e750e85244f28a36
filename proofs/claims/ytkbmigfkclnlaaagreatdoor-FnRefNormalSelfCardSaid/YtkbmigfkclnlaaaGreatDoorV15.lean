/-
FnRefNormalSelf: the regular expressions, the digest and the reference, part 15 of 26.
-/
import Derived.Test.YtkbmigfkclnlaaaGreatDoorV14
import Derived.Test.YtkbmigfkclnlaaaGreatDoorV13
import Derived.Test.YtkbmigfkclnlaaaGreatDoorV04
import Derived.Lib.Hide
set_option linter.all false
namespace Go.Proofs.YtkbmigfkclnlaaaGreatDoor
open Go.RowKit Go.Rx

section
variable {Y : SL} {E : Env} {p k : Nat} {mcap : List Int} {m : Option (List Int)} {n : List CE} {pool : List Th} {rem q : List CE} {pb : Option (Nat × Nat)} {len PB j : Nat} {w : World} {R : List Env.Entry × Option (List Int)} {Q : Exit → Act → World → Prop}

theorem StepMem.added {pc : Nat} {t : Th × List Int} (h : StepMem Y mcap m n pool ((pc, some t) :: rem) pb len q PB w) {out : Nat} {n2 : List CE} {pool2 : List Th} {hh : Option Nat} {w1 : World} {p' : Nat}
  (ho : AddOut ((Y.at pb len m.isSome).cb t.1.2) E p' k out t.2 n pool (some t.1.1) w n2 pool2 hh w1) :
  NSt (Y.at pb len m.isSome) mcap n2 pool2 rem (left hh t.1) ([Y.Dr, Y.Sr] ++ Y.X) w1 ∧ RunRows Y q w1 ∧ pool2.length + 1 + rem.length ≤ PB ∧ Below Y.L.N Y.w0 w1 := by
 obtain ⟨st, hmem, hout, hnC⟩ := h.st.toAdd
 have hn := h.st.fromAdd ho.st ho.new ho.moved
 rw [List.append_nil] at hn
 have hb := h.bound
 simp only [List.length_cons] at hb
 have hle := ho.moved.le
 refine ⟨hn, h.rows.chg ho.moved.chg (hout _ (.inr (.inr (.inr (by simp))))) (hout _ (.inr (.inr (.inr (by simp))))), by omega, h.below.trans (ho.moved.chg.below h.st.st.prog.le (fun b hb => (h.st.ge b (hmem b hb)).1))⟩

theorem round_yes (so : SOk Y) (se : SEnv Y E p k) {pc : Nat} {t : Th × List Int} (hm : StepMem Y mcap m n pool ((pc, some t) :: q.drop (j + 1)) pb q.length q PB w) (hj : j < q.length) (hqj : q[j]? = some (pc, some t))
  (hp : 0 < pc ∧ pc < Y.L.np) (hop : (Y.L.pg pc).op = 7 ∨ (Y.L.pg pc).op = 8) (hlq : q.length < Y.L.nq) (htk : E.takes (E.prog pc) (E.st p).1 = true)
  (hR : Env.stepF E p k ((pc, some t.2) :: (q.drop (j + 1)).map fg) (n.map fg) m = R) (hPB : PB < 8900000000000) (hgo : GoOn Y E p k q PB j R Q)
  {a : Act} (hf : HF Y.L.M Y.ro Y.L.qo p (p + (E.st p).2) (E.st p).1 Y.L.F j a) : stBody.wp Tryz.prog Q a w := by
 obtain ⟨f1, f6, ff6, fM, fo, fk, fb, fp, fP⟩ := hm.facts so hPB
 obtain ⟨dl, d1, d2, d3⟩ := hm.rows.d
 have hD : w.cell? ⟨Y.Dr, j * 2 + 1, none⟩ = some (.pointer (some ⟨t.1.1, 0, none⟩)) := by rw [d1.cell, (d3 j _ hqj).2]; rfl
 obtain ⟨r1, r2, r3⟩ := hm.st.rthr pc t (List.mem_cons_self ..)
 have hnq : Y.L.nq ≤ 100000 := so.ok.nq
 have hpg := se.prog pc hp.1 hp.2
 have hle : Env.stepF E p k ((q.drop (j + 1)).map fg) (Env.addF E (p + (E.st p).2) k (n.map fg) (Y.L.pg pc).out t.2) m = R := by
  rw [← hR, Env.stepF]
  have h4 : ¬ (E.prog pc).op = 4 := by rw [hpg]; omega
  rw [if_neg h4, htk, hpg]
  rfl
 obtain ⟨o1, o2⟩ := so.ok.out pc hp.1 hp.2 (by show (Y.L.pg pc).op ≠ 4; omega)
 have ok := SL.aok so pb q.length m.isSome t.1.2
 have ae : AEnv ((Y.at pb q.length m.isSome).cb t.1.2) E (p + (E.st p).2) := se.ae.other rfl rfl rfl
 have hcall : ∀ y : Ext w, Calls Tryz.prog 108 #[.pointer (some ⟨Y.L.M, 0, none⟩), .pointer (some ⟨Y.L.M, Y.L.qo, none⟩), .int .u32 (Y.L.pg pc).out, .int .i64 ((p + (E.st p).2 : Nat) : Int), .slice (some ⟨t.1.2, 0, none⟩) Y.L.nc Y.L.nc, .pointer (some ⟨Y.L.F, 0, none⟩), .pointer (some ⟨t.1.1, 0, none⟩)] y.now fun e w1 =>
   ∃ hh, e = .returned (handPtr hh) ∧ ∃ y : Ext w, ∃ n2 pool2, AddOut ((Y.at pb q.length m.isSome).cb t.1.2) E (p + (E.st p).2) k (Y.L.pg pc).out t.2 n pool (some t.1.1) y.now n2 pool2 hh w1 := by
  intro y
  have hmy := nstAway hm y
  refine (add_sim ok ae k (Y.L.pg pc).out t.2 n pool (some t.1.1) y.now (se.top _) o1 o2 hmy.st.toAdd.1).mono ?_
  rintro e w1 ⟨n2, pool2, hh, rfl, ho⟩
  exact ⟨hh, rfl, y, n2, pool2, ho⟩
 have hgp : ∀ T' w1, (∃ y : Ext w, ∃ n2 pool2, AddOut ((Y.at pb q.length m.isSome).cb t.1.2) E (p + (E.st p).2) k (Y.L.pg pc).out t.2 n pool (some t.1.1) y.now n2 pool2 (some T') w1) →
   ∃ k' pv xs, w1.cell? ⟨Y.L.M, 6, none⟩ = some pv ∧ w1.frozen? ⟨Y.L.M, 6, none⟩ = false ∧ w1.ownsRow Y.L.N 209 1 pv k' xs ∧ k' < 9990000000000 ∧ Y.L.N ≤ w1.heap.size ∧ pv.ownBlock ≠ some Y.L.M ∧ Y.L.M < w1.heap.size := by
  rintro T' w1 ⟨y, n2, pool2, ho⟩
  obtain ⟨c1, c2, c3, c4, c5⟩ := SL.cells so pb q.length m.isSome n2.length pool2.length
  have hle := ho.moved.le
  refine ⟨pool2.length, poolVal pb pool2.length, _, (ho.st.mblk.cell _).trans c3, ho.st.mblk.free _, ho.st.prow, by omega, ho.st.prog.le, ?_, ho.st.mblk.lt⟩
  intro e
  have hmb : Y.L.M ∈ pbBlk pb := (poolVal_own _ _ _).1 e
  have := ho.st.fixed.2 Y.L.M (AL.mem_rest.2 (.inl hmb))
  exact this.1 rfl
 have hgn : ∀ a' w1, HF Y.L.M Y.ro Y.L.qo p (p + (E.st p).2) (E.st p).1 Y.L.F (j + 1) a' → (∃ y : Ext w, ∃ n2 pool2, AddOut ((Y.at pb q.length m.isSome).cb t.1.2) E (p + (E.st p).2) k (Y.L.pg pc).out t.2 n pool (some t.1.1) y.now n2 pool2 none w1) → Q .normal a' w1 := by
  rintro a' w1 hf' ⟨y, n2, pool2, ho⟩
  obtain ⟨s1, s2, s3, s4⟩ := (nstAway hm y).added ho
  refine hgo a' w1 mcap m n2 pool2 pb hf' ⟨s1, hm.cap, s2, by omega, s4⟩ ?_
  rw [ho.eq]
  exact hle
 have hgs : ∀ a' T' w1 k' pv xs g cap w2, HF Y.L.M Y.ro Y.L.qo p (p + (E.st p).2) (E.st p).1 Y.L.F (j + 1) a' → (∃ y : Ext w, ∃ n2 pool2, AddOut ((Y.at pb q.length m.isSome).cb t.1.2) E (p + (E.st p).2) k (Y.L.pg pc).out t.2 n pool (some t.1.1) y.now n2 pool2 (some T') w1) →
   w1.cell? ⟨Y.L.M, 6, none⟩ = some pv → w1.ownsRow Y.L.N 209 1 pv k' xs → w2.ownsRow Y.L.N 209 1 (.slice (some ⟨g, 0, none⟩) (k' + 1) cap) (k' + 1) (xs ++ [.pointer (some ⟨T', 0, none⟩)]) →
   (∃ y : Ext w1, y.now.grownBy w2 pv.ownBlock) → (pv.ownBlock = some g ∨ w1.heap.size ≤ g) → g < w2.heap.size → Q .normal a' (w2.setCell ⟨Y.L.M, 6, none⟩ (.slice (some ⟨g, 0, none⟩) (k' + 1) cap)) := by
  rintro a' T' w1 k' pv xs g cap w2 hf' ⟨y, n2, pool2, ho⟩ hcell hown hown2 hex hgg hgl
  obtain ⟨s1, s2, s3, s4⟩ := (nstAway hm y).added ho
  obtain ⟨c1, c2, c3, c4, c5⟩ := SL.cells so pb q.length m.isSome n2.length pool2.length
  have hpv : pv = poolVal pb pool2.length := by
   have := hcell.symm.trans ((ho.st.mblk.cell 6).trans c3)
   exact Option.some.inj this
  subst hpv
  have hprow : w1.ownsRow Y.L.N 209 1 (poolVal pb pool2.length) pool2.length (pool2.map fun t => .pointer (some ⟨t.1, 0, none⟩)) := ho.st.prow
  have hT' : T' = t.1.1 := by
   rcases ho.new.2 with h | h
   ·simpa using h
   ·cases h
  subst hT'
  have hk' : k' = pool2.length := by
   rcases hown.2 with ⟨h, h'⟩ | ⟨g', cap', cur, hv, _, _, hn, _⟩
   ·cases pb with
    | none =>
     rcases hprow.2 with ⟨_, h3⟩ | ⟨g', cap', cur, hv, _⟩
     ·omega
     ·cases hv
    | some pp => simp [poolVal] at h
   ·cases pb with
    | none => simp [poolVal] at hv
    | some pp =>
     simp [poolVal] at hv
     exact hv.2.1.symm
  subst hk'
  have hxs : xs = pool2.map fun t => .pointer (some ⟨t.1, 0, none⟩) := by
   have h1 := hown.2
   have h2 := hprow.2
   rcases h1 with ⟨e1, e2⟩ | ⟨g1, cap1, cur1, hv1, _, hh1, _, _, _, ht1⟩
   ·have := hown.1
    rw [e2] at this
    simp at this
    rw [this]
    have h3 := hprow.1
    rw [e2] at h3
    simp at h3
    rw [h3]
    rfl
   ·rcases h2 with ⟨e1, e2⟩ | ⟨g2, cap2, cur2, hv2, _, hh2, _, _, _, ht2⟩
    ·rw [hv1] at e1; cases e1
    ·rw [hv1] at hv2
     cases hv2
     rw [hh1] at hh2
     cases hh2
     exact ht1.symm.trans ht2
  subst hxs
  refine hgo a' _ mcap m n2 _ _ hf' (StepMem.back (fr := t.1) s1 hm.cap s2 (by omega) s4 hPB hex hown2 hgg hgl) ?_
  rw [ho.eq]
  exact hle
 rcases hop with hop | hop
 ·obtain ⟨k1, k2⟩ := se.t7 pc hp.1 hp.2 hop
  rw [k1] at htk
  obtain ⟨v, hv, hr⟩ := fP.rune pc hp.1 hp.2
  rcases hr with ⟨_, hnil⟩ | ⟨rb, cr, rfl, hrb, hcc⟩
  ·exfalso
   rw [hnil] at k2
   unfold ClassLen at k2
   simp at k2
  ·have hIl := fP.lt.2.2
   have hNl := fP.le
   have hmr : ∀ y : Ext w, Calls Tryz.prog 99 #[.pointer (some ⟨Y.L.I, pc * 4, none⟩), .int .i32 (E.st p).1] y.now fun e w1 => e = .returned (.bool true) ∧ w1 = y.now := by
    intro y
    have := match_rune Y.L.I pc rb cr (Y.L.pg pc).rune (E.st p).1 y.now ((y.cell _ _ (by omega)).trans hv) (fun i x hx => (y.cell _ _ (by omega)).trans (hcc i x hx)) k2
    rw [htk] at this
    exact this
   exact st_yes7_f Y.L.M Y.ro Y.L.qo p (p + (E.st p).2) (E.st p).1 Y.L.F j w Q Y.Dr q.length Y.L.nq f1 (by omega) t.1.1 t.1.2 Y.L.nc hj hD d1.lt Y.L.N Y.L.R Y.L.PR Y.L.I Y.L.np Y.L.pg fP pc hp.1 hp.2 ((r1.cell 0).trans rfl) ((r1.cell 1).trans rfl) r1.lt fM hop hmr
    Y.L.N _ hcall hgp hgn hgs hf
 ·obtain ⟨x, k1, k2⟩ := se.t8 pc hp.1 hp.2 hop
  rw [k2] at htk
  have hne : (E.st p).1 = x := by simpa using (of_decide_eq_true htk).symm
  obtain ⟨v, hv, hr⟩ := fP.rune pc hp.1 hp.2
  rcases hr with ⟨_, hnil⟩ | ⟨rb, cr, rfl, hrb, hcc⟩
  ·rw [k1] at hnil; cases hnil
  ·have hNl := fP.le
   rw [k1] at hv hcc
   exact st_yes8_f Y.L.M Y.ro Y.L.qo p (p + (E.st p).2) (E.st p).1 Y.L.F j w Q Y.Dr q.length Y.L.nq f1 (by omega) t.1.1 t.1.2 Y.L.nc hj hD d1.lt Y.L.N Y.L.R Y.L.PR Y.L.I Y.L.np Y.L.pg fP pc hp.1 hp.2 ((r1.cell 0).trans rfl) ((r1.cell 1).trans rfl) r1.lt fM hop
    rb cr x hv (hcc 0 x rfl) (by omega) hne Y.L.N _ hcall hgp hgn hgs hf

end
end Go.Proofs.YtkbmigfkclnlaaaGreatDoor
namespace Go.Proofs.YtkbmigfkclnlaaaGreatDoor
open Go.RowKit Go.Rx

section
variable {Y : SL} {E : Env} {p k : Nat} {mcap : List Int} {m : Option (List Int)} {n : List CE} {pool : List Th} {rem q : List CE} {pb : Option (Nat × Nat)} {len PB j : Nat} {w : World} {R : List Env.Entry × Option (List Int)} {Q : Exit → Act → World → Prop}

def Ended (Y : SL) (E : Env) (p : Nat) (q : List CE) (PB : Nat) (R : List Env.Entry × Option (List Int)) (j : Nat) (Q : Exit → Act → World → Prop) : Prop :=
 ∀ a' w' mcap' m' n' pool' pb', HF Y.L.M Y.ro Y.L.qo p (p + (E.st p).2) (E.st p).1 Y.L.F j a' → StepMem Y mcap' m' n' pool' [] pb' 0 q PB w' → (n'.map fg, m') = R → Q .normal a' w'

set_option maxHeartbeats 1000000 in
theorem round_match (so : SOk Y) (se : SEnv Y E p k) {pc : Nat} {t : Th × List Int} (hm : StepMem Y mcap m n pool ((pc, some t) :: q.drop (j + 1)) pb q.length q PB w) (hj : j < q.length) (hqj : q[j]? = some (pc, some t))
  (hp : 0 < pc ∧ pc < Y.L.np) (hop : (Y.L.pg pc).op = 4) (hlq : q.length < Y.L.nq)
  (hR : Env.stepF E p k ((pc, some t.2) :: (q.drop (j + 1)).map fg) (n.map fg) m = R) (hPB : PB < 8900000000000)
  (hQp : ∀ (c : List PanicEntry) (a : Act) (d : Option Tmp) (v : Value) (w : World), Q (.panic c) (a.put d v) w → Q (.panic c) a w) (hgo : Ended Y E p q PB R (j + 1) Q)
  {a : Act} (hf : HF Y.L.M Y.ro Y.L.qo p (p + (E.st p).2) (E.st p).1 Y.L.F j a) : stBody.wp Tryz.prog Q a w := by
 obtain ⟨f1, f6, ff6, fM, fo, fk, fb, fp, fP⟩ := hm.facts so hPB
 obtain ⟨c1, c2, c3, c4, c5⟩ := SL.cells so pb q.length m.isSome n.length pool.length
 obtain ⟨dl, d1, d2, d3⟩ := hm.rows.d
 obtain ⟨r1, r2, r3⟩ := hm.st.rthr pc t (List.mem_cons_self ..)
 have hnq : Y.L.nq ≤ 100000 := so.ok.nq
 have hnc : 2 ≤ Y.L.nc ∧ Y.L.nc < 100 := so.ok.nc
 have hpg := se.prog pc hp.1 hp.2
 have r3' : t.2.length = Y.L.nc := r3
 have hR' : R = (n.map fg, some (t.2.set 1 (p : Int))) := by
  rw [← hR, Env.stepF, if_pos (by rw [hpg]; exact hop), if_pos (by omega)]
 have hlen : q.length = j + 1 + (q.drop (j + 1)).length := by simp; omega
 obtain ⟨mm, hmm⟩ : ∃ mm, (q.drop (j + 1)).length = mm := ⟨_, rfl⟩
 rw [hmm] at hlen
 have hK : ([Y.L.M, Y.L.MC, t.1.1, t.1.2, Y.Dr] ++ pbBlk pb ++ aBlks (q.drop (j + 1))).Nodup := by
  refine nodup_of_count hm.st.apart (fun a => ?_)
  have e1 : (Y.at pb q.length m.isSome).tot n pool ((pc, some t) :: q.drop (j + 1)) [] ([Y.Dr, Y.Sr] ++ Y.X) = [Y.L.M] ++ [Y.L.S, Y.L.D, Y.L.F] ++ [Y.L.MC] ++ pbBlk pb ++ aBlks n ++ pBlks pool ++ ([t.1.1] ++ [t.1.2] ++ aBlks (q.drop (j + 1))) ++ pBlks [] ++ ([Y.Dr] ++ [Y.Sr] ++ Y.X) := by
   rw [AL.tot, aBlks_cons_some]; rfl
  have e2 : [Y.L.M, Y.L.MC, t.1.1, t.1.2, Y.Dr] ++ pbBlk pb ++ aBlks (q.drop (j + 1)) = [Y.L.M] ++ [Y.L.MC] ++ [t.1.1] ++ [t.1.2] ++ [Y.Dr] ++ pbBlk pb ++ aBlks (q.drop (j + 1)) := rfl
  rw [e1, e2]
  simp only [List.count_append]
  omega
 obtain ⟨hK1, hK2, hK3⟩ := List.nodup_append.1 hK
 obtain ⟨hK4, hK5, hK6⟩ := List.nodup_append.1 hK1
 simp at hK4
 have hpbd : ∀ b, (poolVal pb pool.length).ownBlock = some b → b ≠ Y.L.M ∧ b ≠ Y.Dr ∧ b ≠ t.1.1 ∧ b ≠ t.1.2 ∧ b ≠ Y.L.MC := by
  intro b hb
  have hb' := (poolVal_own _ _ _).1 hb
  exact ⟨fun e => hK6 _ (by simp) b hb' e.symm, fun e => hK6 _ (by simp) b hb' e.symm, fun e => hK6 _ (by simp) b hb' e.symm, fun e => hK6 _ (by simp) b hb' e.symm, fun e => hK6 _ (by simp) b hb' e.symm⟩
 have hdr : ∀ (i : Nat) (e : CE), (q.drop (j + 1))[i]? = some e → dl[(j + 1 + i) * 2]? = some (.int .u32 e.1) ∧ dl[(j + 1 + i) * 2 + 1]? = some (thPtr e.2) := fun i e he => d3 (j + 1 + i) e (by rw [List.getElem?_drop] at he; exact he)
 have hone : ∀ v ∈ intCells t.2, v.oneCell' = true := by
  intro u hu
  unfold intCells at hu
  obtain ⟨x, _, rfl⟩ := List.mem_map.1 hu
  rfl
 have hcm : Blk w Y.L.MC (intCells mcap) 3 := hm.st.st.cap
 have hcl : mcap.length = Y.L.nc := hm.st.st.clen
 have hb := hm.bound
 simp only [List.length_cons] at hb
 have c1' : ((Y.at pb q.length m.isSome).mCells n.length pool.length)[Y.ro + 1]? = some (.slice (some ⟨Y.Dr, 0, none⟩) (j + 1 + mm) Y.L.nq) := by rw [← hlen]; exact c1
 refine st_match_f Y.L.M Y.ro Y.L.qo p (p + (E.st p).2) (E.st p).1 Y.L.F j w Q Y.Dr mm Y.L.nq _ Y.L.tM hm.st.st.mblk c5 so.ro c1' (by omega) (by omega) Y.L.MC Y.L.nc c4 (.bool m.isSome) c2
  t.1.1 t.1.2 dl Y.tDr d1 (by rw [(d3 j _ hqj).2]; rfl) (q.drop (j + 1)) hmm hdr Y.L.N Y.L.R Y.L.PR Y.L.I Y.L.np Y.L.pg fP pc hp.1 hp.2 hop r1
  (intCells t.2) (intCells mcap) r2 hcm (by unfold intCells; rw [List.length_map]; exact r3) (by unfold intCells; rw [List.length_map]; exact hcl) hnc.1 (by omega) hone
  Y.L.N pool.length (poolVal pb pool.length) _ c3 fo (by omega) fb ⟨by omega, by omega, by omega, by omega, by omega, by omega, by omega, by omega, by omega, by omega⟩ hpbd hQp ?_ hf
 intro a' w2 pv2 k2 hf' hM2 hown2 hMC2 hC2 ⟨Z, x, hZ⟩ hpv2
 have hset : (intCells t.2).set 1 (.int .i64 p) = intCells (t.2.set 1 (p : Int)) := by unfold intCells; rw [List.map_set]
 rw [hset] at hMC2 hC2
 -- the pool's row is a slice of a block
 have hk2 : k2 = (pool ++ (ths (q.drop (j + 1)) ++ [t.1])).length := by
  have := hown2.1
  rw [ths_ptrs] at this
  simp at this ⊢
  omega
 have hrow : (pool.map fun t => Value.pointer (some ⟨t.1, 0, none⟩)) ++ thPtrs (q.drop (j + 1)) ++ [.pointer (some ⟨t.1.1, 0, none⟩)] = (pool ++ (ths (q.drop (j + 1)) ++ [t.1])).map fun t => Value.pointer (some ⟨t.1, 0, none⟩) := by
  rw [ths_ptrs]
  simp
 rw [hrow] at hown2
 obtain ⟨g, cap, hpv⟩ : ∃ g cap, pv2 = .slice (some ⟨g, 0, none⟩) k2 cap := by
  rcases hown2.2 with ⟨_, h0⟩ | ⟨g, cap, cur, hv, _⟩
  ·rw [hk2] at h0; simp at h0
  ·exact ⟨g, cap, hv⟩
 subst hpv
 have hgl : g < w2.heap.size := (hown2.lt g rfl).2
 have hn2 := hm.st.toFr.free
 have hlenths : (ths (q.drop (j + 1))).length ≤ mm := by
  rw [← hmm]
  unfold ths
  exact List.length_filterMap_le _ _
 have hts : NSt (Y.at pb q.length m.isSome) mcap n pool [] ((ths (q.drop (j + 1)) ++ [t.1]) ++ []) ([Y.Dr, Y.Sr] ++ Y.X) w := by
  rw [List.append_nil]; exact hn2
 have hXin : ∀ b, b ∈ Z → b = Y.L.M ∨ b = t.1.2 ∨ b = Y.L.MC ∨ b ∈ pbBlk pb := by
  intro b hb
  rcases hZ b hb with h | h | h | h
  ·exact .inl h
  ·exact .inr (.inl h)
  ·exact .inr (.inr (.inl h))
  ·exact .inr (.inr (.inr ((poolVal_own _ _ _).1 h)))
 have hMcells : ((((SL.at Y pb q.length m.isSome).mCells n.length pool.length).set 6 (.slice (some ⟨g, 0, none⟩) k2 cap)).set (Y.ro + 1) (.slice (some ⟨Y.Dr, 0, none⟩) 0 Y.L.nq)).set 7 (.bool true) =
   ((((Y.at pb q.length m.isSome).pl (some (g, cap))).mlo (mlOf Y.L.ml Y.ro Y.Dr Y.L.nq 0 true)).cb Y.L.MC).mCells n.length (pool ++ (ths (q.drop (j + 1)) ++ [t.1])).length := by
  have hr := so.ro
  have hq : Y.L.qo = 2 ∨ Y.L.qo = 4 := so.ok.qo
  have hne := so.ne
  simp only [SL.at, AL.mCells, AL.cb, AL.pl, AL.mlo, mlOf, poolVal]
  rw [← hk2]
  rw [List.set_set, List.set_comm _ _ (show (6 : Nat) ≠ Y.ro + 1 by omega), List.set_comm _ _ (show Y.L.qo + 1 ≠ Y.ro + 1 by omega), List.set_comm _ _ (show (7 : Nat) ≠ Y.ro + 1 by omega), List.set_set,
   List.set_comm _ _ (show (6 : Nat) ≠ 7 by omega), List.set_comm _ _ (show Y.L.qo + 1 ≠ 7 by omega), List.set_set]
 have hM3 : Blk w2 Y.L.M (((((SL.at Y pb q.length m.isSome).mCells n.length pool.length).set 6 (.slice (some ⟨g, 0, none⟩) k2 cap)).set (Y.ro + 1) (.slice (some ⟨Y.Dr, 0, none⟩) 0 Y.L.nq)).set 7 (.bool true)) Y.L.tM := hM2
 rw [hMcells] at hM3
 have hpour := NSt.pour (L := Y.at pb q.length m.isSome) (mcap' := t.2.set 1 (p : Int)) (g := g) (cap := cap) (ml' := mlOf Y.L.ml Y.ro Y.Dr Y.L.nq 0 true) hts x
  (fun b hb => by
   rcases hXin b hb with h | h | h | h
   ·exact .inl h
   ·refine .inr (.inr (.inr ?_))
    rw [pBlks_append, h]
    simp [pBlks]
   ·exact .inr (.inl h)
   ·exact .inr (.inr (.inl h)))
  hM3 hMC2 (by rw [List.length_set]; exact r3) ?_ (by rw [← hk2]; exact hown2) ?_ hgl (by rw [← hk2, hk2]; simp; omega)
 ·refine hgo a' w2 (t.2.set 1 (p : Int)) (some (t.2.set 1 (p : Int))) n _ (some (g, cap)) hf' ⟨hpour, fun c hc => by simpa using hc, ?_, ?_, ?_⟩ hR'.symm
  ·have hsep : ∀ b, b ∈ [Y.Dr, Y.Sr] ++ Y.X → b ∉ Z := by
    intro b hb hz
    refine hm.st.sep hb ?_
    simp only [List.mem_append, aBlks_cons_some]
    rcases hXin b hz with h | h | h | h
    ·refine .inl (.inl (.inl (.inl (.inl ?_))))
     rw [h]
     exact List.mem_cons_self ..
    ·refine .inl (.inr (.inl ?_))
     rw [h]
     simp
    ·refine .inl (.inl (.inl (.inl (.inl ?_))))
     rw [h]
     show Y.L.MC ∈ [Y.L.M, Y.L.S, Y.L.D, Y.L.F, Y.L.MC]
     simp
    ·exact .inl (.inl (.inl (.inl (.inr h))))
   exact hm.rows.chg x (hsep _ (by simp)) (hsep _ (by simp))
  ·simp
   omega
  ·refine hm.below.trans (x.below fb (fun b hb => ?_))
   refine (hm.st.ge b ?_).1
   rw [AL.tot, aBlks_cons_some]
   simp only [List.mem_append]
   rcases hXin b hb with h | h | h | h
   ·refine .inl (.inl (.inl (.inl (.inl (.inl ?_)))))
    rw [h]
    exact List.mem_cons_self ..
   ·refine .inl (.inl (.inr (.inl ?_)))
    rw [h]
    simp
   ·refine .inl (.inl (.inl (.inl (.inl (.inl ?_)))))
    rw [h]
    show Y.L.MC ∈ [Y.L.M, Y.L.S, Y.L.D, Y.L.F, Y.L.MC]
    simp
   ·exact .inl (.inl (.inl (.inl (.inl (.inr h)))))
 ·intro t' ht'
  rcases List.mem_append.1 ht' with ht' | ht'
  ·obtain ⟨⟨v, s1⟩, l, s2, s3⟩ := hn2.fthr t' (List.mem_append_left _ ht')
   obtain ⟨pc', c', hmem⟩ := mem_ths ht'
   obtain ⟨m1, m2⟩ := mem_aBlks hmem
   have hno : ∀ b, b ∈ aBlks (q.drop (j + 1)) → b ∉ Z := by
    intro b hb hz
    rcases hXin b hz with h | h | h | h
    ·exact hK3 Y.L.M (by simp) b hb h.symm
    ·exact hK3 t.1.2 (by simp) b hb h.symm
    ·exact hK3 Y.L.MC (by simp) b hb h.symm
    ·exact hK3 b (by simp [h]) b hb rfl
   exact ⟨⟨v, s1.chg x (hno _ m1)⟩, l, s2.chg x (hno _ m2), s3⟩
  ·simp at ht'
   subst ht'
   refine ⟨⟨_, r1.chg x (fun hz => ?_)⟩, _, hC2, by unfold intCells; rw [List.length_map, List.length_set]; exact r3⟩
   rcases hXin _ hz with h | h | h | h
   ·omega
   ·omega
   ·omega
   ·exact hK6 t.1.1 (by simp) _ h rfl
 ·rcases hpv2 with h | h
  ·have : (poolVal pb pool.length).ownBlock = some g := by rw [← h]; rfl
   exact .inl ((poolVal_own _ _ _).1 this)
  ·exact .inr (h g rfl)

end
end Go.Proofs.YtkbmigfkclnlaaaGreatDoor
namespace Go.Proofs.YtkbmigfkclnlaaaGreatDoor
open Go.RowKit Go.Rx

theorem NSt.mset {L : AL} {mcap : List Int} {n rem : List CE} {pool fr : List Th} {X : List Nat} {w w' : World} {ml' : List Value} (h : NSt L mcap n pool rem fr X w) (x : Chg [L.M] w w') (hM : Blk w' L.M ((L.mlo ml').mCells n.length pool.length) L.tM) :
  NSt (L.mlo ml') mcap n pool rem fr X w' := by
 have hap := h.apart
 have eT : ∀ a, List.count a (L.tot n pool rem fr X) = List.count a [L.M] + (List.count a [L.S, L.D, L.F, L.MC] + List.count a (pbBlk L.pb) + List.count a (aBlks n) + List.count a (pBlks pool) + List.count a (aBlks rem) + List.count a (pBlks fr) + List.count a X) := by
  intro a
  have e1 : L.tot n pool rem fr X = [L.M] ++ [L.S, L.D, L.F, L.MC] ++ pbBlk L.pb ++ aBlks n ++ pBlks pool ++ aBlks rem ++ pBlks fr ++ X := rfl
  rw [e1]
  simp only [List.count_append]
  omega
 have c1 : ∀ (b : Nat) (l : List Nat), b ∈ l → 1 ≤ List.count b l := fun b l hb => List.count_pos_iff.2 hb
 have hoth : ∀ b, 1 ≤ List.count b [L.S, L.D, L.F, L.MC] + List.count b (pbBlk L.pb) + List.count b (aBlks n) + List.count b (pBlks pool) + List.count b (aBlks rem) + List.count b (pBlks fr) + List.count b X → b ∉ [L.M] := by
  intro b hb hm
  have h1 := (List.nodup_iff_count.1 hap) b
  rw [eT] at h1
  have := c1 b [L.M] hm
  omega
 obtain ⟨rest, d1, d2⟩ := h.st.dense
 obtain ⟨sp, s1, s2, s3⟩ := h.st.sparse
 have oS : L.S ∉ [L.M] := hoth _ (by have := c1 L.S [L.S, L.D, L.F, L.MC] (by simp); omega)
 have oD : L.D ∉ [L.M] := hoth _ (by have := c1 L.D [L.S, L.D, L.F, L.MC] (by simp); omega)
 have oF : L.F ∉ [L.M] := hoth _ (by have := c1 L.F [L.S, L.D, L.F, L.MC] (by simp); omega)
 have oC : L.MC ∉ [L.M] := hoth _ (by have := c1 L.MC [L.S, L.D, L.F, L.MC] (by simp); omega)
 have oB : ∀ b, b ∈ pbBlk L.pb → b ∉ [L.M] := fun b hb => hoth _ (by have := c1 b _ hb; omega)
 have oN : ∀ b, b ∈ aBlks n → b ∉ [L.M] := fun b hb => hoth _ (by have := c1 b _ hb; omega)
 have oP : ∀ b, b ∈ pBlks pool → b ∉ [L.M] := fun b hb => hoth _ (by have := c1 b _ hb; omega)
 have oR : ∀ b, b ∈ aBlks rem → b ∉ [L.M] := fun b hb => hoth _ (by have := c1 b _ hb; omega)
 have oR2 : ∀ b, b ∈ pBlks fr → b ∉ [L.M] := fun b hb => hoth _ (by have := c1 b _ hb; omega)
 have hFl := (h.ge L.F (by rw [AL.tot]; simp)).2
 have hMN := (h.ge L.M (by rw [AL.tot]; simp)).1
 refine ⟨?_, h.noMC, ?_, ?_, hap, fun b hb => ⟨(h.ge b hb).1, Nat.lt_of_lt_of_le (h.ge b hb).2 x.size⟩⟩
 ·exact
  { prog := h.st.prog.chg x (fun b hb => by simp at hb; rw [hb]; exact hMN)
    mblk := hM
    dense := ⟨rest, d1.chg x oD, d2⟩
    sparse := ⟨sp, s1.chg x oS, s2, s3⟩
    pcs := h.st.pcs
    thr := fun pc' t' ht' => by
      obtain ⟨a1, a2, a3⟩ := h.st.thr pc' t' ht'
      obtain ⟨m1, m2⟩ := mem_aBlks ht'
      exact ⟨a1.chg x (oN _ m1), fun hn => (a2 hn).chg x (oN _ m2), a3⟩
    pthr := fun i t' ht' => by
      obtain ⟨⟨v, a1⟩, l, a2, a3⟩ := h.st.pthr i t' ht'
      obtain ⟨m1, m2⟩ := mem_pBlks ht'
      exact ⟨⟨v, a1.chg x (oP _ m1)⟩, l, a2.chg x (oP _ m2), a3⟩
    prow := prow_chg h.st.prow x (fun p hp => oB _ (by
      have : L.pb = some p := hp
      rw [this]; simp [pbBlk]))
    pcap := h.st.pcap
    hthr := fun T hT => by cases hT
    cap := h.st.cap.chg x oC
    clen := h.st.clen
    flag := h.st.flag.chg x oF
    apart := h.st.apart
    ge := fun b hb => ⟨(h.st.ge b hb).1, Nat.lt_of_lt_of_le (h.st.ge b hb).2 x.size⟩ }
 ·intro pc' t' ht'
  obtain ⟨r1, r2, r3⟩ := h.rthr pc' t' ht'
  obtain ⟨m1, m2⟩ := mem_aBlks ht'
  exact ⟨r1.chg x (oR _ m1), r2.chg x (oR _ m2), r3⟩
 ·intro t' ht'
  obtain ⟨⟨v, r1⟩, l, r2, r3⟩ := h.fthr t' ht'
  have m1 : t'.1 ∈ pBlks fr ∧ t'.2 ∈ pBlks fr := by
   unfold pBlks
   exact ⟨List.mem_flatMap.2 ⟨_, ht', by simp⟩, List.mem_flatMap.2 ⟨_, ht', by simp⟩⟩
  exact ⟨⟨v, r1.chg x (oR2 _ m1.1)⟩, l, r2.chg x (oR2 _ m1.2), r3⟩

section
variable {Y : SL} {E : Env} {p k : Nat} {mcap : List Int} {m : Option (List Int)} {n : List CE} {pool : List Th} {rem q : List CE} {pb : Option (Nat × Nat)} {len PB j : Nat} {w : World} {R : List Env.Entry × Option (List Int)} {Q : Exit → Act → World → Prop}

theorem StepMem.close (so : SOk Y) (h : StepMem Y mcap m n pool [] pb len q PB w) : StepMem Y mcap m n pool [] pb 0 q PB (w.setCell ⟨Y.L.M, Y.ro + 1, none⟩ (.slice (some ⟨Y.Dr, 0, none⟩) 0 Y.L.nq)) := by
 have x := Chg.set w Y.L.M (Y.ro + 1) (.slice (some ⟨Y.Dr, 0, none⟩) 0 Y.L.nq)
 have hr := so.ro
 have hq : Y.L.qo = 2 ∨ Y.L.qo = 4 := so.ok.qo
 have hne := so.ne
 have hM := h.st.st.mblk.set (Y.ro + 1) (.slice (some ⟨Y.Dr, 0, none⟩) 0 Y.L.nq)
 have hM' : Blk (w.setCell ⟨Y.L.M, Y.ro + 1, none⟩ (.slice (some ⟨Y.Dr, 0, none⟩) 0 Y.L.nq)) Y.L.M (((Y.at pb len m.isSome).mCells n.length pool.length).set (Y.ro + 1) (.slice (some ⟨Y.Dr, 0, none⟩) 0 Y.L.nq)) Y.L.tM := hM
 have e : ((Y.at pb len m.isSome).mCells n.length pool.length).set (Y.ro + 1) (.slice (some ⟨Y.Dr, 0, none⟩) 0 Y.L.nq) = ((Y.at pb len m.isSome).mlo (mlOf Y.L.ml Y.ro Y.Dr Y.L.nq 0 m.isSome)).mCells n.length pool.length := by
  simp only [SL.at, AL.mCells, AL.pl, AL.mlo, mlOf]
  rw [List.set_comm _ _ (show (6 : Nat) ≠ Y.ro + 1 by omega), List.set_comm _ _ (show Y.L.qo + 1 ≠ Y.ro + 1 by omega), List.set_comm _ _ (show (7 : Nat) ≠ Y.ro + 1 by omega), List.set_set]
 rw [e] at hM'
 have hn := NSt.mset (L := Y.at pb len m.isSome) h.st x hM'
 have hout : ∀ b, b ∈ [Y.Dr, Y.Sr] ++ Y.X → b ∉ [Y.L.M] := by
  intro b hb hm
  refine h.st.sep hb ?_
  simp at hm
  simp only [List.mem_append]
  refine .inl (.inl (.inl (.inl (.inl ?_))))
  rw [hm]
  exact List.mem_cons_self ..
 refine ⟨hn, h.cap, h.rows.chg x (hout _ (by simp)) (hout _ (by simp)), h.bound, h.below.trans (x.below h.st.st.prog.le (fun b hb => ?_))⟩
 simp at hb
 refine (h.st.ge b ?_).1
 rw [AL.tot, hb]
 simp only [List.mem_append]
 exact .inl (.inl (.inl (.inl (.inl (.inl (List.mem_cons_self ..))))))

def StepTop (Y : SL) (E : Env) (p k : Nat) (q : List CE) (PB : Nat) (R : List Env.Entry × Option (List Int)) (i : Nat) (a : Act) (w : World) : Prop :=
 ∃ j mcap m n pool pb len, HF Y.L.M Y.ro Y.L.qo p (p + (E.st p).2) (E.st p).1 Y.L.F j a ∧
  ((len = q.length ∧ j ≤ q.length ∧ i = q.length - j + 1 ∧ StepMem Y mcap m n pool (q.drop j) pb len q PB w ∧ Env.stepF E p k ((q.drop j).map fg) (n.map fg) m = R) ∨
   (len = 0 ∧ i = 0 ∧ StepMem Y mcap m n pool [] pb len q PB w ∧ (n.map fg, m) = R))

theorem step_loop (so : SOk Y) (se : SEnv Y E p k) (hq : ∀ e, e ∈ q → 0 < e.1 ∧ e.1 < Y.L.np) (hqw : Env.Waits E (q.map fg)) (hlq : q.length < Y.L.nq) (hPB : PB < 8900000000000)
  (hm : StepMem Y mcap m n pool q pb q.length q PB w) (hR : Env.stepF E p k (q.map fg) (n.map fg) m = R)
  (hQp : ∀ (c : List PanicEntry) (a : Act) (d : Option Tmp) (v : Value) (w : World), Q (.panic c) (a.put d v) w → Q (.panic c) a w)
  (hfin : ∀ j' a' w' mcap' m' n' pool' pb' len', HF Y.L.M Y.ro Y.L.qo p (p + (E.st p).2) (E.st p).1 Y.L.F j' a' → StepMem Y mcap' m' n' pool' [] pb' len' q PB w' → (n'.map fg, m') = R → Q (.exit 0) a' w')
  {a : Act} (hf : HF Y.L.M Y.ro Y.L.qo p (p + (E.st p).2) (E.st p).1 Y.L.F 0 a) : (Code.loop stBody).wp Tryz.prog Q a w := by
 have hnq : Y.L.nq ≤ 100000 := so.ok.nq
 refine wp_loop_nat (StepTop Y E p k q PB R) (q.length - 0 + 1) ⟨0, mcap, m, n, pool, pb, q.length, hf, .inl ⟨rfl, Nat.zero_le _, rfl, by rw [List.drop_zero]; exact hm, by rw [List.drop_zero]; exact hR⟩⟩ ?_
 rintro i a w ⟨j, mcap, m, n, pool, pb, len, hf, ⟨rfl, hj, rfl, hm, hR⟩ | ⟨rfl, rfl, hm, hR⟩⟩
 ·rcases Nat.lt_or_ge j q.length with hlt | hge
  ·have hd : q.drop j = q[j] :: q.drop (j + 1) := List.drop_eq_getElem_cons hlt
   have hqj : q[j]? = some q[j] := List.getElem?_eq_getElem hlt
   obtain ⟨f1, f6, ff6, fM, fo, fk, fb, fp, fP⟩ := hm.facts so hPB
   obtain ⟨dl, d1, d2, d3⟩ := hm.rows.d
   have hin := hq q[j] (List.getElem_mem hlt)
   obtain ⟨pc, o, hpo⟩ : ∃ pc o, q[j] = (pc, o) := ⟨_, _, rfl⟩
   rw [hpo] at hd hqj hin
   rw [hd] at hm hR
   have go : GoOn Y E p k q PB j R (Exit.then (fun a' w' => ∃ k', k' < q.length - j + 1 ∧ StepTop Y E p k q PB R k' a' w') Q) := by
    intro a' w' mcap' m' n' pool' pb' hf' hm' hR'
    exact ⟨q.length - (j + 1) + 1, by omega, j + 1, mcap', m', n', pool', pb', q.length, hf', .inl ⟨rfl, hlt, rfl, hm', hR'⟩⟩
   cases o with
   | none =>
    refine st_nil_f Y.L.M Y.ro Y.L.qo p (p + (E.st p).2) (E.st p).1 Y.L.F j w _ Y.Dr q.length Y.L.nq f1 (by omega) hlt (by rw [d1.cell, (d3 j _ hqj).2]; rfl) ?_ hf
    intro a' hf'
    exact go a' w mcap m n pool pb hf' hm.skip (by rw [← hR]; rfl)
   | some t =>
    have hw := hqw pc t.2 (List.mem_map.2 ⟨(pc, some t), by rw [← hpo]; exact List.getElem_mem hlt, rfl⟩)
    have hpg := se.prog pc hin.1 hin.2
    have hops := so.ok.ops pc hin.1 hin.2
    have hops' : (Y.L.pg pc).op = 0 ∨ (Y.L.pg pc).op = 2 ∨ (Y.L.pg pc).op = 3 ∨ (Y.L.pg pc).op = 4 ∨ (Y.L.pg pc).op = 6 ∨ (Y.L.pg pc).op = 7 ∨ (Y.L.pg pc).op = 8 := hops
    rw [hpg] at hw
    by_cases h4 : (Y.L.pg pc).op = 4
    ·refine round_match (Q := Exit.then (fun a' w' => ∃ k', k' < q.length - j + 1 ∧ StepTop Y E p k q PB R k' a' w') Q) so se hm hlt hqj hin h4 hlq hR hPB (fun c a d v w h => hQp c a d v w h) ?_ hf
     intro a' w' mcap' m' n' pool' pb' hf' hm' hR'
     exact ⟨0, by omega, j + 1, mcap', m', n', pool', pb', 0, hf', .inr ⟨rfl, rfl, hm', hR'⟩⟩
    ·have h78 : (Y.L.pg pc).op = 7 ∨ (Y.L.pg pc).op = 8 := by omega
     cases htk : E.takes (E.prog pc) (E.st p).1 with
     | true => exact round_yes so se hm hlt hqj hin h78 hlq htk hR hPB go hf
     | false => exact round_no so se hm hlt hqj hin hlq h78 htk hR hPB go hf
  ·have hd : q.drop j = [] := List.drop_of_length_le hge
   rw [hd] at hm hR
   obtain ⟨f1, _⟩ := hm.facts so hPB
   refine st_end_f Y.L.M Y.ro Y.L.qo p (p + (E.st p).2) (E.st p).1 Y.L.F j w _ Y.Dr q.length Y.L.nq f1 (by omega) hge ?_ hf
   intro a' hf'
   exact hfin j a' w mcap m n pool pb q.length hf' hm hR
 ·obtain ⟨f1, _⟩ := hm.facts so hPB
  refine st_end_f Y.L.M Y.ro Y.L.qo p (p + (E.st p).2) (E.st p).1 Y.L.F j w _ Y.Dr 0 Y.L.nq f1 (by omega) (Nat.zero_le _) ?_ hf
  intro a' hf'
  exact hfin j a' w mcap m n pool pb 0 hf' hm hR

end
end Go.Proofs.YtkbmigfkclnlaaaGreatDoor
namespace Go.Proofs.YtkbmigfkclnlaaaGreatDoor
open Go.RowKit Go.Rx

section
variable {Y : SL} {E : Env} {p k : Nat} {mcap : List Int} {m : Option (List Int)} {n : List CE} {pool : List Th} {q : List CE} {pb : Option (Nat × Nat)} {PB : Nat} {w : World} {R : List Env.Entry × Option (List Int)}

set_option maxRecDepth 1000000 in
set_option maxHeartbeats 4000000 in
theorem step_sim (so : SOk Y) (se : SEnv Y E p k) (hq : ∀ e, e ∈ q → 0 < e.1 ∧ e.1 < Y.L.np) (hqw : Env.Waits E (q.map fg)) (hlq : q.length < Y.L.nq) (hPB : PB < 8900000000000)
  (hm0 : Y.L.ml[0]? = some (.pointer (some ⟨Y.L.R, 0, none⟩)))
  (hm : StepMem Y mcap m n pool q pb q.length q PB w) (hR : Env.stepF E p k (q.map fg) (n.map fg) m = R) :
  Calls Tryz.prog 109 #[.pointer (some ⟨Y.L.M, 0, none⟩), .pointer (some ⟨Y.L.M, Y.ro, none⟩), .pointer (some ⟨Y.L.M, Y.L.qo, none⟩), .int .i64 p, .int .i64 ((p + (E.st p).2 : Nat) : Int), .int .i32 (E.st p).1, .pointer (some ⟨Y.L.F, 0, none⟩)] w
   fun e w' => e = .returned (.tuple #[]) ∧ ∃ mcap' m' n' pool' pb', StepMem Y mcap' m' n' pool' [] pb' 0 q PB w' ∧ (n'.map fg, m') = R := by
 obtain ⟨f1, f6, ff6, fM, fo, fk, fb, fp, fP⟩ := hm.facts so hPB
 have hr := so.ro
 have hqo : Y.L.qo = 2 ∨ Y.L.qo = 4 := so.ok.qo
 have c0 : w.cell? ⟨Y.L.M, 0, none⟩ = some (.pointer (some ⟨Y.L.R, 0, none⟩)) := by
  refine (hm.st.st.mblk.cell 0).trans ?_
  show ((((Y.L.ml.set (Y.ro + 1) _).set 7 _).set (Y.L.qo + 1) _).set 6 _)[0]? = _
  rw [List.getElem?_set_ne (by omega), List.getElem?_set_ne (by omega), List.getElem?_set_ne (by omega), List.getElem?_set_ne (by omega)]
  exact hm0
 have cl := fP.longest
 have key : ∀ (Q : Exit → Act → World → Prop), (∀ (c : List PanicEntry) (a : Act) (d : Option Tmp) (v : Value) (w : World), Q (.panic c) (a.put d v) w → Q (.panic c) a w) →
   (∀ j' a' w' mcap' m' n' pool' pb' len', HF Y.L.M Y.ro Y.L.qo p (p + (E.st p).2) (E.st p).1 Y.L.F j' a' → StepMem Y mcap' m' n' pool' [] pb' len' q PB w' → (n'.map fg, m') = R → Q (.exit 0) a' w') →
   ∀ a, HF Y.L.M Y.ro Y.L.qo p (p + (E.st p).2) (E.st p).1 Y.L.F 0 a → (Code.loop stBody).wp Tryz.prog Q a w := fun Q h1 h2 a hf => step_loop so se hq hqw hlq hPB hm hR h1 h2 hf
 have HK := Lib.hid key
 have HSO := Lib.hid so
 clear key hq hqw hm hR f1 f6 ff6 fo fP hr hqo hm0 se
 go_enter Tryz.func109, Tryz.ntmps109
 go_wp2_with fail
 rename_i hh
 show (Code.loop stBody).wp Tryz.prog _ _ _
 refine HK.out _ (fun c a d v w h => by cases d <;> exact h) ?_ _ (by constructor <;> rfl)
 intro j' a' w' mcap' m' n' pool' pb' len' hf' hm' hR'
 obtain ⟨f1, _, _, fM', _⟩ := hm'.facts HSO.out hPB
 have ff := hm'.st.st.mblk.free (Y.ro + 1)
 have hcl := hm'.close HSO.out
 have HC := Lib.hid hcl
 have HM := Lib.hid hm'
 have HR := Lib.hid hR'
 clear hcl hm' hR'
 have hdone : ∀ a, a.tmps.size = 239 → a.defers = [] → bodyPost Tryz.prog Tryz.f109 (fun e w' => e = .returned (.tuple #[]) ∧ ∃ mcap' m' n' pool' pb', StepMem Y mcap' m' n' pool' [] pb' 0 q PB w' ∧ (n'.map fg, m') = R) .normal a (w'.setCell ⟨Y.L.M, Y.ro + 1, none⟩ (.slice (some ⟨Y.Dr, 0, none⟩) 0 Y.L.nq)) := by
  intro a s1 s2
  obtain ⟨t, df⟩ := a
  dsimp only at s2
  subst s2
  refine bodyPost_end ?_ rfl ⟨rfl, mcap', m', n', pool', pb', HC.out, HR.out⟩
  simp [results, Tryz.results109, go_sem]
 have HD := Lib.hid hdone
 clear hdone
 have hk := st_close_f Y.L.M Y.ro Y.L.qo p (p + (E.st p).2) (E.st p).1 Y.L.F j' w' _ Y.Dr len' Y.L.nq f1 ff fM' HD.out hf'
 exact hh _ _ hk

end
end Go.Proofs.YtkbmigfkclnlaaaGreatDoor
namespace Go.Proofs.YtkbmigfkclnlaaaGreatDoor
open Go.RowKit Go.Rx
attribute [local go_sem] Ext.cell Ext.frozen Ext.lt Ext.lt_add Ext.cell2 Ext.frozen2
attribute [local irreducible] wpQuiet
attribute [local go_sem] PW.c6 PW.cB

set_option maxRecDepth 1000000 in
set_option maxHeartbeats 4000000 in
theorem clear_any (w : World) (M qo D m nq : Nat) (ml : List Value) (tM : TypeId) (hM : Blk w M ml tM) (hml : ml.length = 10) (hqo : qo = 2 ∨ qo = 4) (hm1 : ml[qo + 1]? = some (.slice (some ⟨D, 0, none⟩) m nq)) (hnq : m < nq) (hnq2 : nq ≤ 1000000)
  (dl : List Value) (tD : TypeId) (hD : Blk w D dl tD) (r : List CE) (hr : r.length = m) (hdr : ∀ (i : Nat) (e : CE), r[i]? = some e → dl[i * 2]? = some (.int .u32 e.1) ∧ dl[i * 2 + 1]? = some (thPtr e.2))
  (base k : Nat) (pv : Value) (xs : List Value) (hm6 : ml[6]? = some pv) (hown : w.ownsRow base 209 1 pv k xs) (hk : k < 9000000000000) (hbase : base ≤ w.heap.size) (hMD : M ≠ D) (hpb : ∀ b, pv.ownBlock = some b → b ≠ M ∧ b ≠ D) :
  Calls Tryz.prog 110 #[.pointer (some ⟨M, 0, none⟩), .pointer (some ⟨M, qo, none⟩)] w fun e w2 => e = .returned (.tuple #[]) ∧ ∃ pv2 k2, Blk w2 M ((ml.set 6 pv2).set (qo + 1) (.slice (some ⟨D, 0, none⟩) 0 nq)) tM ∧ w2.ownsRow base 209 1 pv2 k2 (xs ++ thPtrs r) ∧
   (∃ X, Chg X w w2 ∧ ∀ b, b ∈ X → b = M ∨ pv.ownBlock = some b) := by
 have h1 : w.cell? ⟨M, qo + 1, none⟩ = some (.slice (some ⟨D, 0, none⟩) m nq) := (hM.cell _).trans hm1
 have hP0 : Poured M base k pv ml tM xs w r 0 w := by
  refine ⟨pv, k, ?_, by simpa [thPtrs] using hown, ⟨[], Chg.refl _, fun b hb => by cases hb⟩, .inl rfl, by omega⟩
  have e : ml.set 6 pv = ml := by
   apply List.ext_getElem?
   intro i
   by_cases hi : i = 6
   ·subst hi; rw [List.getElem?_set_self (by omega), hm6]
   ·rw [List.getElem?_set_ne (Ne.symm hi)]
  rw [e]; exact hM
 have HP0 := Lib.hid hP0
 have HO := Lib.hid hown
 have HM := Lib.hid hM
 have HD := Lib.hid hD
 have HR := Lib.hid hdr
 have HPB := Lib.hid hpb
 have HRO := Lib.hid hqo
 clear hP0 hown hM hD hdr hpb hqo
 go_enter Tryz.func110, Tryz.ntmps110
 go_wp2_with fail
 go_loopw [11] (fun t wr => ∃ i : Nat, i ≤ m ∧ t = .int .i64 i ∧ Poured M base k pv ml tM xs w r i wr) (fun t _ => m - (intOf t).toNat)
 case atStart => exact ⟨0, Nat.zero_le _, rfl, HP0.out⟩
 case round =>
  obtain ⟨i, hi, rfl, hpo⟩ := hrel
  have HPO := Lib.hid hpo
  obtain ⟨pv2, k2, p1, p2, ⟨X, p3, p4⟩, p5, p6⟩ := hpo
  have hDX : D ∉ X := fun h => by
   rcases p4 D h with h | h
   ·omega
   ·exact (HPB.out D h).2 rfl
  have bD := HD.out.chg p3 hDX
  by_cases hlt : i < m
  ·have hlt' : (i : Int) < (m : Int) := by omega
   obtain ⟨e, he⟩ : ∃ e, r[i]? = some e := ⟨_, List.getElem?_eq_getElem (by omega)⟩
   obtain ⟨g1, g2⟩ := HR.out i e he
   have e1 : wr.cell? ⟨D, i * 2, none⟩ = some (.int .u32 e.1) := by rw [bD.cell, ← g1]
   have e2 : wr.cell? ⟨D, i * 2 + 1, none⟩ = some (thPtr e.2) := by rw [bD.cell, ← g2]
   have e3 := bD.lt
   have V1 := Lib.hid p1
   have V2 := Lib.hid p2
   have V3 := Lib.hid p3
   have V4 := Lib.hid p4
   have V5 := Lib.hid p5
   have V6 := Lib.hid g1
   have V7 := Lib.hid g2
   have V8 := Lib.hid he
   have V9 := Lib.hid bD
   clear p1 p2 p3 p4 p5 g1 g2 bD he
   cases ht : e.2 with
   | none =>
    rw [ht] at e2
    simp only [thPtr] at e2
    go_wp2_with fail
    refine ⟨⟨i + 1, by omega, by simp, ?_⟩, by simp [intOf]; omega⟩
    have hp := HPO.out.ext (Chg.alloc wr (Obj.cells #[Value.int IntKind.u32 (e.1 : Int), Value.pointer none] 239))
    obtain ⟨pv2', k2', q1, q2, q3, q4, q5⟩ := hp
    exact ⟨pv2', k2', q1, by rw [thPtrs_none r i e V8.out ht]; exact q2, q3, q4, by omega⟩
   | some t =>
    rw [ht] at e2
    simp only [thPtr] at e2
    go_wp2_with fail
    obtain ⟨wa, hwa⟩ : ∃ wa, wa = wr.alloc (Obj.cells #[Value.int IntKind.u32 (e.1 : Int), Value.pointer (some ⟨t.1.1, 0, none⟩)] 239) := ⟨_, rfl⟩
    obtain ⟨BV, hBV⟩ : ∃ BV, wr.heap.size = BV := ⟨_, rfl⟩
    have ca : Chg [] wr wa := by rw [hwa]; exact Chg.alloc _ _
    have bBV : Blk wa BV [.int .u32 (e.1 : Int), .pointer (some ⟨t.1.1, 0, none⟩)] 239 := by rw [hwa, ← hBV]; exact Blk.new _ _ _
    rw [← hwa, hBV]
    have bM6 := V1.out.chg ca (by simp)
    have c6 : wa.cell? ⟨M, 6, none⟩ = some pv2 := by rw [bM6.cell, List.getElem?_set_self (by omega)]
    have hMa := bM6.lt
    have hMBV : M ≠ BV := by have := V1.out.lt; omega
    have cB : wa.cell? ⟨BV, 1, none⟩ = some (.pointer (some ⟨t.1.1, 0, none⟩)) := (bBV.cell 1).trans rfl
    have ownA := own_chg V2.out ca (fun b _ => by simp)
    have hBVl := bBV.lt
    have W1 := Lib.hid bM6
    have W2 := Lib.hid ca
    have W3 := Lib.hid ownA
    clear hwa ca bBV bM6 ownA
    have hne : Nonempty (PW M BV pv2 (.pointer (some ⟨t.1.1, 0, none⟩))) := ⟨⟨wa.drew, c6, cB⟩⟩
    refine wp_region_plan 9 [(0, false), (1, false), (2, false), (3, false), (4, false), (5, false), (6, false), (7, true), (8, true)] (fun w' => ∃ x : PW M BV pv2 (.pointer (some ⟨t.1.1, 0, none⟩)), w' = x.now)
     (by kernel_rfl) (by kernel_rfl) (fun _ _ d _ _ h => by cases d <;> exact h) ⟨⟨wa.drew, c6, cB⟩, rfl⟩ ?_
    refine plan_read rfl (fun K hK => ?_); go_simp; refine hK _ ?_; clear hK K
    refine plan_read rfl (fun K hK => ?_); go_simp; refine hK _ ?_; clear hK K
    refine plan_read rfl (fun K hK => ?_); go_simp; refine hK _ ?_; clear hK K
    refine plan_read rfl (fun K hK => ?_); go_simp; refine hK _ ?_; clear hK K
    refine plan_read rfl (fun K hK => ?_); go_simp; refine hK _ ?_; clear hK K
    refine plan_read rfl (fun K hK => ?_); go_simp; refine hK _ ?_; clear hK K
    refine plan_read rfl (fun K hK => ?_); go_simp; refine hK _ ?_; clear hK K
    refine plan_step rfl (fun K hK => ?_); go_simp
    obtain ⟨wb, hwb⟩ : ∃ wb, wb = (wa.alloc (Obj.cells #[Value.pointer (some ⟨t.1.1, 0, none⟩)] 209)).drew := ⟨_, rfl⟩
    rw [← hwb]
    have cb : Chg [] wa wb := by rw [hwb]; exact (Chg.alloc _ _).trans (Chg.drew _)
    have bZ : Blk wb wa.heap.size [.pointer (some ⟨t.1.1, 0, none⟩)] 209 := by rw [hwb]; exact (Blk.new wa [.pointer (some ⟨t.1.1, 0, none⟩)] 209).drew
    obtain ⟨Z, hZ⟩ : ∃ Z, wa.heap.size = Z := ⟨_, rfl⟩
    have bM7 := W1.out.chg cb (by simp)
    have c6b : wb.cell? ⟨M, 6, none⟩ = some pv2 := by rw [bM7.cell, List.getElem?_set_self (by omega)]
    have cBb : wb.cell? ⟨BV, 1, none⟩ = some (.pointer (some ⟨t.1.1, 0, none⟩)) := by rw [World.cell?_of_block (cb.block BV hBVl (by simp))]; exact cB
    have ownB := own_chg W3.out cb (fun b _ => by simp)
    refine hK _ _ ⟨⟨wb, c6b, cBb⟩, rfl⟩ ?_
    clear hK K hwb
    rw [hZ] at bZ ⊢
    have hV5 := V5.out
    have hV4 := V4.out
    have hpvM : pv2.ownBlock ≠ some M := by
     rcases hV5 with h | h
     ·rw [h]; exact fun hh => (HPB.out M hh).1 rfl
     ·intro hh
      have h1 := h M hh
      have h2 := HM.out.lt
      omega
    have hpvB : pv2.ownBlock ≠ some BV := by
     intro hh
     rcases V2.out.2 with ⟨h, _⟩ | ⟨g, cap, cur, hv, _, hg, _⟩
     ·rw [h] at hh; simp [Value.ownBlock] at hh
     ·rw [hv] at hh
      simp [Value.ownBlock] at hh
      have := (Array.getElem?_eq_some_iff.1 hg).1
      omega
    have hbz : base ≤ wb.heap.size := by
     have h2 := V3.out.size
     have h3 := W2.out.size
     have h4 := cb.size
     omega
    refine plan_step rfl (fun K hK => ?_)
    rw [if_pos (by rfl)]
    refine th_append_wp wb (.tmp 22) (.tmp 25) rfl base k2 pv2 _ rfl ownB ⟨Z, 0, none⟩ (.pointer (some ⟨t.1.1, 0, none⟩)) rfl ((bZ.cell 0).trans rfl) rfl (by omega) hbz ?_
    intro g cap wc o1 o2 o3 o4
    have cc : Chg (pv2.ownBlock.toList) wb wc := ⟨o2.os, o2.tape, o2.output, o2.size, fun b hb hn => o2.block b hb (fun e => hn (by rw [← e]; simp))⟩
    have bM8 := bM7.chg cc (fun h => by simp at h; exact hpvM h)
    have c6c : wc.cell? ⟨M, 6, none⟩ = some pv2 := by rw [bM8.cell, List.getElem?_set_self (by omega)]
    have f6c := bM8.free 6
    have hMc := bM8.lt
    have cBc : wc.cell? ⟨BV, 1, none⟩ = some (.pointer (some ⟨t.1.1, 0, none⟩)) := by rw [World.cell?_of_block (cc.block BV (by have := cb.size; omega) (fun h => by simp at h; exact hpvB h))]; exact cBb
    refine hK _ _ ⟨⟨wc, c6c, cBc⟩, rfl⟩ ?_
    clear hK K
    refine plan_nil ?_
    simp only [List.drop_succ_cons, List.drop_zero]
    dsimp only [List.getElem_toArray, List.getElem_cons_succ, List.getElem_cons_zero]
    have Y1 := Lib.hid o1
    have Y2 := Lib.hid cc
    have Y3 := Lib.hid bM8
    have Y4 := Lib.hid cb
    have Y5 := Lib.hid o3
    clear o1 o2 o3 cc bM7 bM8 cb ownB hV5 hV4 bZ
    go_wp2_with fail
    refine ⟨⟨i + 1, by omega, by simp, ?_⟩, by simp [intOf]; omega⟩
    have hgM : g ≠ M := by
     rcases Y5.out with h | h
     ·intro e; subst e; exact hpvM h
     ·have h1 := Y4.out.size
      omega
    have hs1 := V3.out.size
    have hs2 := W2.out.size
    have hs3 := Y4.out.size
    refine ⟨.slice (some ⟨g, 0, none⟩) (k2 + 1) cap, k2 + 1, ?_, ?_, ⟨[M] ++ pv.ownBlock.toList, ?_, ?_⟩, ?_, by omega⟩
    ·have := Y3.out.set 6 (.slice (some ⟨g, 0, none⟩) (k2 + 1) cap)
     rw [List.set_set] at this
     exact this
    ·have := own_chg Y1.out (Chg.set wc M 6 (.slice (some ⟨g, 0, none⟩) (k2 + 1) cap)) (fun b hb => by simp [Value.ownBlock] at hb; subst hb; simpa using hgM)
     rw [thPtrs_some r i e t V8.out ht, ← List.append_assoc]
     exact this
    ·refine ((((V3.out.trans W2.out).trans Y4.out).trans Y2.out).trans (Chg.set wc M 6 _)).mono ?_
     intro b hb hlt
     simp only [List.append_nil, List.mem_append, List.mem_singleton] at hb ⊢
     rcases hb with (hb | hb) | hb
     ·rcases V4.out b hb with h | h
      ·exact .inl h
      ·exact .inr (by rw [h]; simp)
     ·rcases V5.out with h | h
      ·exact .inr (by rw [← h]; exact hb)
      ·have := h b (by simpa using hb)
       omega
     ·exact .inl hb
    ·intro b hb
     simp at hb
     exact hb
    ·rcases Y5.out with h | h
     ·rcases V5.out with h' | h'
      ·exact .inl (by rw [← h', h]; rfl)
      ·exact .inr (fun b hb => by simp [Value.ownBlock] at hb; subst hb; exact h' g h)
     ·exact .inr (fun b hb => by simp [Value.ownBlock] at hb; omega)
  ·have hie : i = m := by omega
   subst hie
   have hlt' : ¬ ((i : Int) < (i : Int)) := by omega
   have hro10 : qo + 1 < 10 ∧ qo + 1 ≠ 6 := by have := HRO.out; omega
   have a1 : wr.cell? ⟨M, qo + 1, none⟩ = some (.slice (some ⟨D, 0, none⟩) i nq) := by rw [p1.cell, List.getElem?_set_ne (by omega)]; exact hm1
   have a1f := p1.free (qo + 1)
   have hMr := p1.lt
   have b1 := p1.set (qo + 1) (.slice (some ⟨D, 0, none⟩) 0 nq)
   have V2 := Lib.hid p2
   have V3 := Lib.hid p3
   have V4 := Lib.hid p4
   have V5 := Lib.hid p5
   have W0 := Lib.hid b1
   clear p1 p2 p3 p4 p5 b1 bD
   go_wp2_with fail
   go_end0
   have e : List.take i r = r := List.take_of_length_le (by omega)
   have o := V2.out
   rw [e] at o
   have hst : Chg [M] wr (wr.setCell ⟨M, qo + 1, none⟩ (.slice (some ⟨D, 0, none⟩) 0 nq)) := Chg.set _ _ _ _
   refine ⟨rfl, pv2, W0.out, ⟨k2, own_chg o hst (fun b hb hm => ?_)⟩, X ++ [M], V3.out.trans hst, fun b hb => ?_⟩
   ·simp at hm
    subst hm
    rcases V5.out with h | h
    ·rw [h] at hb; exact (HPB.out b hb).1 rfl
    ·have h1 := h b hb
     have h2 := HM.out.lt
     omega
   ·rcases List.mem_append.1 hb with hb | hb
    ·exact V4.out b hb
    ·simp at hb; exact .inl hb

end Go.Proofs.YtkbmigfkclnlaaaGreatDoor
namespace Go.Proofs.YtkbmigfkclnlaaaGreatDoor
open Go.RowKit Go.Rx

theorem put_any (w : World) (R M : Nat) (ml : List Value) (tM : TypeId) (hM : Blk w M ml tM) (v0 v1 : Value) (s : ByteArray) (h0 : ml[0]? = some v0) (h1 : ml[1]? = some v1) (h9 : ml[9]? = some (.string s)) :
  Calls Tryz.prog 88 #[.pointer (some ⟨R, 0, none⟩), .pointer (some ⟨M, 0, none⟩)] w fun e w' => e = .returned (.tuple #[]) ∧ Chg [M] w w' := by
 have c0 : w.cell? ⟨M, 0, none⟩ = some v0 := (hM.cell 0).trans h0
 have c1 : w.cell? ⟨M, 1, none⟩ = some v1 := (hM.cell 1).trans h1
 have f0 := hM.free 0
 have f1 := hM.free 1
 have hl := hM.lt
 have b1 := (hM.set 0 (.pointer none)).set 1 (.pointer none)
 have hlen : 9 < ml.length := (List.getElem?_eq_some_iff.1 h9).1
 have hcl := inputs_clear ((w.setCell ⟨M, 0, none⟩ (.pointer none)).setCell ⟨M, 1, none⟩ (.pointer none)) M 9 s (by
  rw [b1.cell, List.getElem?_set_ne (by omega), List.getElem?_set_ne (by omega)]; exact h9) (b1.free 9) b1.lt
 have H1 := Lib.hid hM
 have H2 := Lib.hid b1
 clear hM b1
 go_enter Tryz.func88, Tryz.ntmps88
 go_wp2_with (first | (go_at_call 111; (with_reducible refine hcl.mono ?_); rintro e w' ⟨rfl, rfl⟩))
 go_end0
 exact ⟨rfl, (((Chg.set w M 0 _).trans (Chg.set _ M 1 _)).trans (Chg.set _ M 9 _)).mono (fun b hb _ => by simpa using hb)⟩

theorem init_new (w : World) (M MC nc : Nat) (ml : List Value) (tM : TypeId) (hM : Blk w M ml tM) (h6 : ml[6]? = some (.slice none 0 0)) (h8 : ml[8]? = some (.slice (some ⟨MC, 0, none⟩) nc nc)) (hnc : 0 < nc ∧ nc < 1000) :
  Calls Tryz.prog 86 #[.pointer (some ⟨M, 0, none⟩), .int .i64 nc] w fun e w' => e = .returned (.tuple #[]) ∧ w' = w.setCell ⟨M, 8, none⟩ (.slice (some ⟨MC, 0, none⟩) nc nc) := by
 have c6 : w.cell? ⟨M, 6, none⟩ = some (.slice none 0 0) := (hM.cell 6).trans h6
 have c8 : w.cell? ⟨M, 8, none⟩ = some (.slice (some ⟨MC, 0, none⟩) nc nc) := (hM.cell 8).trans h8
 have f8 := hM.free 8
 have hl := hM.lt
 have hncp : ¬ nc = 0 := by omega
 clear hM
 go_enter Tryz.func86, Tryz.ntmps86
 go_wp2_with fail
 go_loopw [11] (fun t wr => t = .int .i64 0 ∧ wr = w) (fun _ _ => 0)
 case atStart => exact ⟨rfl, rfl⟩
 case round =>
  obtain ⟨rfl, rfl⟩ := hrel
  go_wp2_with fail
  go_end0
  exact ⟨rfl, rfl⟩

end Go.Proofs.YtkbmigfkclnlaaaGreatDoor
