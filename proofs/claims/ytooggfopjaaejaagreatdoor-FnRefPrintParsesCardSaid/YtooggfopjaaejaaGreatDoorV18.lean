/-
FnRefPrintParses: the regular expressions, the digest and the reference, part 18 of 25.
-/
import Derived.Test.YtooggfopjaaejaaGreatDoorV17
import Derived.Test.YtooggfopjaaejaaGreatDoorV16
import Derived.Test.YtooggfopjaaejaaGreatDoorV04
import Derived.Great.BuildSlice
set_option linter.all false
namespace Go.Proofs.YtooggfopjaaejaaGreatDoor
open Go.RowKit Go.Rx
attribute [local go_sem] mstep_method mstep_func
attribute [local go_sem] Ext.cell Ext.frozen Ext.lt Ext.lt_add Ext.cell2 Ext.frozen2

def newCells (R PR S0 D0 S1 D1 MC nc nq : Nat) (s : ByteArray) : List Value :=
  [.pointer (some ⟨R, 0, none⟩), .pointer (some ⟨PR, 0, none⟩), .slice (some ⟨S0, 0, none⟩) nq nq, .slice (some ⟨D0, 0, none⟩) 0 nq, .slice (some ⟨S1, 0, none⟩) nq nq, .slice (some ⟨D1, 0, none⟩) 0 nq, .slice none 0 0, .bool false, .slice (some ⟨MC, 0, none⟩) nc nc, .string s]

/-- A new machine with a text. -/
structure MatchIn (N : Nat) (w0 w : World) (M R PR I MC S0 D0 S1 D1 np nc nq : Nat) (pg : Nat → Inst) (s : ByteArray) : Prop where
  m : Blk w M (newCells R PR S0 D0 S1 D1 MC nc nq s) 128
  mc : Blk w MC (List.replicate nc (.int .i64 0)) 3
  s0 : ∃ sp : List Nat, Blk w S0 (wordCells sp) 84 ∧ sp.length = nq
  d0 : ∃ dl, Blk w D0 dl 201 ∧ dl.length = nq * 2
  s1 : ∃ sp : List Nat, Blk w S1 (wordCells sp) 84 ∧ sp.length = nq
  d1 : ∃ dl, Blk w D1 dl 201 ∧ dl.length = nq * 2
  prog : ProgAt w N R PR I np pg
  below : Below N w0 w
  apart : [M, S0, D0, MC, D1, S1].Nodup
  ge : ∀ b, b ∈ [M, S0, D0, MC, D1, S1] → N ≤ b ∧ b < w.heap.size

def mlY (N M R PR I MC S0 D0 S1 D1 np nc nq F : Nat) (pg : Nat → Inst) (s : ByteArray) (w0 : World) : SL :=
  { L := { N := N, R := R, PR := PR, I := I, np := np, pg := pg, M := M, qo := 2, S := S0, D := D0, nq := nq, nc := nc, F := F, CB := MC, pb := none, MC := MC, ml := newCells R PR S0 D0 S1 D1 MC nc nq s, tM := 128, tS := 84, tD := 201, fl := flagOf (-1) (runeAt s 0) }
    ro := 4, Dr := D1, Sr := S1, tDr := 201, tSr := 84, X := [], w0 := w0 }

def after2 : Code → Option Code
  | .seq (.block 2 _) d => some d
  | .seq a d => (after2 d).or (after2 a)
  | .block _ c => after2 c
  | _ => none
noncomputable def mtTail : Code := (Tryz.f61.body.bind after2).getD .skip

set_option maxRecDepth 1000000 in
set_option maxHeartbeats 4000000 in
theorem mt_tail {a : Act} (M rq xq pos : Nat) (r r1 : Int) (wd wd1 F : Nat) (w : World) (Q : Exit → Act → World → Prop) (G : World → Prop) (hclear : Calls Tryz.prog 82 #[.pointer (some ⟨M, 0, none⟩), .pointer (some ⟨M, xq, none⟩)] w fun e w2 => e = .returned (.tuple #[]) ∧ G w2)
    (h7 : ∀ w2, G w2 → w2.cell? ⟨M, 7, none⟩ = some (.bool true)) (hgo : ∀ a w2, a.tmps.size = 226 → a.defers = [] → a.tmps.getD 6 undef = .bool true → G w2 → Q .ret a w2) (hfr : MF M rq xq pos r r1 wd wd1 F a) : mtTail.wp Tryz.prog Q a w := by
  cases hfr
  conv => arg 2; whnf
  have HC := Lib.hid hclear
  have HG := Lib.hid hgo
  clear hclear hgo
  go_wp2_with (first | (go_at_call 82; (with_reducible refine HC.out.mono ?_); rintro e w2 ⟨rfl, hg⟩; have d7 := h7 _ hg))
  exact HG.out _ _ rfl rfl rfl hg

/-- The memory at the loop's head for the first time. -/
theorem mlY_mem {N : Nat} {w0 w : World} {M R PR I MC S0 D0 S1 D1 np nc nq F : Nat} {pg : Nat → Inst} {s : ByteArray} (m : Blk w M (newCells R PR S0 D0 S1 D1 MC nc nq s) 128) (mc : Blk w MC (List.replicate nc (.int .i64 (-1))) 3)
    (s0 : ∃ sp : List Nat, Blk w S0 (wordCells sp) 84 ∧ sp.length = nq) (d0 : ∃ dl, Blk w D0 dl 201 ∧ dl.length = nq * 2) (s1 : ∃ sp : List Nat, Blk w S1 (wordCells sp) 84 ∧ sp.length = nq) (d1 : ∃ dl, Blk w D1 dl 201 ∧ dl.length = nq * 2)
    (prog : ProgAt w N R PR I np pg) (below : Below N w0 w) (apart : [M, S0, D0, MC, D1, S1].Nodup) (ge : ∀ b, b ∈ [M, S0, D0, MC, D1, S1] → N ≤ b ∧ b < F) (hF : Blk w F [.int .u64 (flagOf (-1) (runeAt s 0))] 168) :
    StepMem (mlY N M R PR I MC S0 D0 S1 D1 np nc nq F pg s w0) (List.replicate nc (-1)) none [] [] [] none 0 [] 0 w := by
  have hFl := hF.lt
  have hFn : ∀ b, b ∈ [M, S0, D0, MC, D1, S1] → b ≠ F := fun b hb => by have := (ge b hb).2; omega
  have hall : [M, S0, D0, F, MC, D1, S1].Nodup := by
    have e : ∀ x, List.count x [M, S0, D0, F, MC, D1, S1] ≤ List.count x (F :: [M, S0, D0, MC, D1, S1]) := by
      intro x
      simp only [List.count_cons, List.count_nil]
      omega
    refine nodup_of_count (List.nodup_cons.2 ⟨fun hm => hFn F hm rfl, apart⟩) e
  have hge : ∀ b, b ∈ [M, S0, D0, F, MC, D1, S1] → N ≤ b ∧ b < w.heap.size := by
    intro b hb
    have hc : b = F ∨ b ∈ [M, S0, D0, MC, D1, S1] := by
      simp only [List.mem_cons, List.not_mem_nil, or_false] at hb ⊢
      rcases hb with h | h | h | h | h | h | h <;> simp [h]
    rcases hc with rfl | hc
    · have := (ge M (by simp)).1
      have := (ge M (by simp)).2
      omega
    · have := ge b hc
      omega
  obtain ⟨sp0, a1, a2⟩ := s0
  obtain ⟨dl0, b1, b2⟩ := d0
  obtain ⟨sp1, c1, c2⟩ := s1
  obtain ⟨dl1, e1, e2⟩ := d1
  have hic : intCells (List.replicate nc (-1)) = List.replicate nc (Value.int .i64 (-1)) := by simp [intCells]
  refine ⟨⟨{ prog := prog
             mblk := m
             dense := ⟨dl0, b1, by show 0 * 2 + dl0.length = nq * 2; omega⟩
             sparse := ⟨sp0, a1, a2, fun i e hi => by simp at hi⟩
             pcs := ⟨List.nodup_nil, fun e he => by cases he⟩
             thr := fun pc t ht => by cases ht
             pthr := fun i t ht => by simp at ht
             prow := World.ownsRow_nil _ _ _ _
             pcap := by simp
             hthr := fun T hT => by cases hT
             cap := by rw [hic]; exact mc
             clen := by rw [List.length_replicate]; rfl
             flag := hF
             apart := List.Nodup.sublist (l₁ := [M, S0, D0, F, MC]) (List.sublist_append_left _ [D1, S1]) hall
             ge := fun b hb => hge b (List.mem_append_left [D1, S1] (show b ∈ [M, S0, D0, F, MC] from hb)) }, (fun pc t ht => by cases ht), (fun pc t ht => by cases ht), (fun t ht => by cases ht), hall, hge⟩, (fun c hc => by cases hc), ⟨⟨dl1, e1, e2, fun i e hi => by simp at hi⟩, sp1, c1, c2⟩, Nat.le_refl _, below⟩

/-- What the clearing at the end leaves. -/
def Closed (Y : SL) (r : List Int) (w : World) : Prop :=
  Below Y.L.N Y.w0 w ∧ Blk w Y.L.MC (intCells r) 3 ∧ ∃ ml v0 v1, Blk w Y.L.M ml Y.L.tM ∧ ml[0]? = some v0 ∧ ml[1]? = some v1 ∧ ml[7]? = some (.bool true) ∧ ml[8]? = some (.slice (some ⟨Y.L.MC, 0, none⟩) Y.L.nc Y.L.nc) ∧ ml[9]? = Y.L.ml[9]?

theorem mt_close {Y : SL} {mcap r : List Int} {q : List CE} {pool : List Th} {pb : Option (Nat × Nat)} {PB : Nat} {w : World} (mo : MOk Y) (hm : StepMem Y mcap (some r) q pool [] pb 0 [] PB w) (hnq : 0 < Y.L.nq) :
    Calls Tryz.prog 82 #[.pointer (some ⟨Y.L.M, 0, none⟩), .pointer (some ⟨Y.L.M, Y.ro, none⟩)] w fun e w2 => e = .returned (.tuple #[]) ∧ Closed Y r w2 := by
  have st := hm.st.st
  have aok := SL.aok mo.so pb 0 true Y.L.MC
  obtain ⟨a1, a2, a3, a4, a5⟩ := AL.mc aok q.length pool.length
  obtain ⟨b1, b2, b3, b4, b5⟩ := SL.cells mo.so pb 0 true q.length pool.length
  obtain ⟨dl, d1, d2, d3⟩ := hm.rows.d
  have hro := mo.so.ro
  have hqo : Y.L.qo = 2 ∨ Y.L.qo = 4 := mo.so.ok.qo
  have hne := mo.so.ne
  have hnq2 : Y.L.nq ≤ 100000 := mo.so.ok.nq
  have hap := hm.st.apart
  have e0 : (Y.at pb 0 (some r).isSome).tot q pool [] [] ([Y.Dr, Y.Sr] ++ Y.X) = [Y.L.M] ++ ([Y.L.S, Y.L.D, Y.L.F] ++ ([Y.L.MC] ++ (pbBlk pb ++ (aBlks q ++ pBlks pool ++ aBlks [] ++ pBlks [] ++ ([Y.Dr] ++ ([Y.Sr] ++ Y.X)))))) := by
    simp only [AL.tot, SL.at, AL.pl, AL.mlo, List.append_assoc, List.cons_append, List.nil_append]
  have hge := hm.st.ge
  rw [e0] at hap hge
  have hMD : Y.L.M ≠ Y.Dr := by
    intro e
    rw [List.singleton_append, List.nodup_cons] at hap
    apply hap.1
    rw [e]
    simp
  have hMMC : Y.L.M ≠ Y.L.MC := by
    intro e
    rw [List.singleton_append, List.nodup_cons] at hap
    apply hap.1
    rw [e]
    simp
  have hpb : ∀ b, (poolVal pb pool.length).ownBlock = some b → b ≠ Y.L.M ∧ b ≠ Y.Dr ∧ b ≠ Y.L.MC ∧ Y.L.N ≤ b := by
    intro b hb
    have hbm : b ∈ pbBlk pb := by
      cases pb with
      | none => simp [poolVal, Value.ownBlock] at hb
      | some p => simp [poolVal, Value.ownBlock] at hb; simp [pbBlk, hb]
    refine ⟨?_, ?_, ?_, ?_⟩
    · intro e
      rw [List.singleton_append, List.nodup_cons] at hap
      apply hap.1
      rw [← e]
      simp [hbm]
    · intro e
      have h1 := (List.nodup_append.1 hap).2.1
      have h2 := (List.nodup_append.1 h1).2.1
      have h3 := (List.nodup_append.1 h2).2.1
      have h4 := (List.nodup_append.1 h3).2.2
      exact h4 b hbm Y.Dr (by simp) e
    · intro e
      have h1 := (List.nodup_append.1 hap).2.1
      have h2 := (List.nodup_append.1 h1).2.1
      exact (List.nodup_append.1 h2).2.2 Y.L.MC (by simp) b (by simp [hbm]) e.symm
    · exact (hge b (by simp [hbm])).1
  have hNM : Y.L.N ≤ Y.L.M := (hge Y.L.M (by simp)).1
  refine (clear_any w Y.L.M Y.ro Y.Dr 0 Y.L.nq _ Y.L.tM st.mblk b5 hro b1 hnq (by omega) dl Y.tDr d1 [] rfl (fun i e hi => by simp at hi) Y.L.N pool.length _ _ b3 st.prow st.pcap st.prog.le hMD (fun b hb => ⟨(hpb b hb).1, (hpb b hb).2.1⟩)).mono ?_
  rintro e w2 ⟨rfl, pv2, k2, c1, c2, X, c3, c4⟩
  refine ⟨rfl, hm.below.trans (c3.below st.prog.le ?_), ?_, _, .pointer (some ⟨Y.L.R, 0, none⟩), .pointer (some ⟨Y.L.PR, 0, none⟩), c1, ?_, ?_, ?_, ?_, ?_⟩
  · intro b hb
    rcases c4 b hb with h | h
    · rw [h]; exact hNM
    · exact (hpb b h).2.2.2
  · have hr : mcap = r := hm.cap r rfl
    rw [← hr]
    refine st.cap.chg c3 ?_
    intro hb
    rcases c4 _ hb with h | h
    · exact hMMC h.symm
    · exact (hpb _ h).2.2.1 rfl
  · rw [List.getElem?_set_ne (by omega), List.getElem?_set_ne (by omega)]
    show ((((Y.L.ml.set (Y.ro + 1) _).set 7 _).set (Y.L.qo + 1) _).set 6 _)[0]? = _
    rw [List.getElem?_set_ne (by omega), List.getElem?_set_ne (by omega), List.getElem?_set_ne (by omega), List.getElem?_set_ne (by omega)]
    exact mo.m0
  · rw [List.getElem?_set_ne (by omega), List.getElem?_set_ne (by omega)]
    exact a1
  · rw [List.getElem?_set_ne (by omega), List.getElem?_set_ne (by omega)]
    exact b2
  · rw [List.getElem?_set_ne (by omega), List.getElem?_set_ne (by omega)]
    exact b4
  · rw [List.getElem?_set_ne (by omega), List.getElem?_set_ne (by omega)]
    show ((((Y.L.ml.set (Y.ro + 1) _).set 7 _).set (Y.L.qo + 1) _).set 6 _)[9]? = _
    rw [List.getElem?_set_ne (by omega), List.getElem?_set_ne (by omega), List.getElem?_set_ne (by omega), List.getElem?_set_ne (by omega)]

end Go.Proofs.YtooggfopjaaejaaGreatDoor
namespace Go.Proofs.YtooggfopjaaejaaGreatDoor
open Go.RowKit Go.Rx
attribute [local go_sem] mstep_method mstep_func
attribute [local go_sem] Ext.cell Ext.frozen Ext.lt Ext.lt_add Ext.cell2 Ext.frozen2

set_option maxRecDepth 1000000 in
set_option maxHeartbeats 4000000 in
theorem match_new {N : Nat} {w0 w : World} {M R PR I MC S0 D0 S1 D1 np nc nq : Nat} {pg : Nat → Inst} {s : ByteArray} {rank : Nat → Nat} {top : Nat} {r : List Int} (h : MatchIn N w0 w M R PR I MC S0 D0 S1 D1 np nc nq pg s) (hnc : 2 ≤ nc ∧ nc < 100)
    (hcond : w.cell? ⟨R, 13, none⟩ = some (.int .u8 4)) (hs : Plain s) (hsz : s.size < 10000000000)
    (hme : ∀ F, MEnv (mlY N M R PR I MC S0 D0 S1 D1 np nc nq F pg s w0) s rank top top (cap0 nc) r) :
    Calls Tryz.prog 61 #[.pointer (some ⟨M, 0, none⟩), .iface 198 (.pointer (some ⟨M, 9, none⟩)), .int .i64 0] w fun e w' => e = .returned (.bool true) ∧
      Below N w0 w' ∧ Blk w' MC (intCells r) 3 ∧ ∃ ml v0 v1, Blk w' M ml 128 ∧ ml[0]? = some v0 ∧ ml[1]? = some v1 ∧ ml[8]? = some (.slice (some ⟨MC, 0, none⟩) nc nc) ∧ ml[9]? = some (.string s) := by
  have q0 : w.cell? ⟨M, 0, none⟩ = some (.pointer (some ⟨R, 0, none⟩)) := (h.m.cell 0).trans rfl
  have q7 : w.cell? ⟨M, 7, none⟩ = some (.bool false) := (h.m.cell 7).trans rfl
  have q8 : w.cell? ⟨M, 8, none⟩ = some (.slice (some ⟨MC, 0, none⟩) nc nc) := (h.m.cell 8).trans rfl
  have f7 := h.m.free 7
  have hMl := h.m.lt
  have hRl : R < w.heap.size := by have := h.prog.lt.1; have := h.prog.le; omega
  have hRM : R ≠ M := by have := h.prog.lt.1; have := (h.ge M (by simp)).1; omega
  have H := Lib.hid h
  clear h
  go_enter Tryz.func61, Tryz.ntmps61
  go_wp2_with fail
  obtain ⟨w1, hw1⟩ : ∃ w1, w1 = w.setCell ⟨M, 7, none⟩ (.bool false) := ⟨_, rfl⟩
  rw [← hw1]
  have bM1 : Blk w1 M (newCells R PR S0 D0 S1 D1 MC nc nq s) 128 := by
    have := H.out.m.set 7 (.bool false)
    rw [← hw1] at this
    exact this
  have c01 : Chg [M] w w1 := by rw [hw1]; exact Chg.set _ _ _ _
  have hap := H.out.apart
  have hMMC : M ≠ MC := by
    rw [List.nodup_cons] at hap
    intro e
    apply hap.1
    rw [e]
    simp
  have bC1 : Blk w1 MC (List.replicate nc (.int .i64 0)) 3 := H.out.mc.chg c01 (by simpa using Ne.symm hMMC)
  have hF0 : FillIs M MC nc (newCells R PR S0 D0 S1 D1 MC nc nq s) 128 w1 0 w1 := ⟨bM1, by simpa using bC1, (Chg.refl w1).mono (fun _ h => by cases h)⟩
  have HF := Lib.hid hF0
  have HC1 := Lib.hid c01
  have HAP := Lib.hid hap
  clear hw1 bM1 bC1 hF0 c01 hap
  go_loopw [34] (fun t wr => ∃ k : Nat, k ≤ nc ∧ t = .int .i64 k ∧ FillIs M MC nc (newCells R PR S0 D0 S1 D1 MC nc nq s) 128 w1 k wr) (fun t _ => nc - (intOf t).toNat)
  case atStart => exact ⟨0, Nat.zero_le _, rfl, HF.out⟩
  case round =>
    obtain ⟨k, hk, rfl, hfi⟩ := hrel
    have hfB := hfi.1
    have hfC := hfi.2.1
    have c8 : wr.cell? ⟨M, 8, none⟩ = some (.slice (some ⟨MC, 0, none⟩) nc nc) := (hfB.cell 8).trans rfl
    have hCl := hfC.lt
    have hBl' := hfB.lt
    by_cases hlt : k < nc
    · have hlt' : (k : Int) < (nc : Int) := by omega
      have d1 : wr.cell? ⟨MC, k, none⟩ = some (.int .i64 0) := by
        rw [hfC.cell, List.getElem?_append_right (by simp), List.length_replicate, Nat.sub_self, List.getElem?_replicate, if_pos (by omega)]
      have d2 := hfC.free k
      have HN := Lib.hid (hfi.next hlt hMMC)
      clear hfi hfB hfC
      go_wp2_with fail
      exact ⟨⟨k + 1, by omega, by simp, HN.out⟩, by simp [intOf]; omega⟩
    · have hkn : k = nc := by omega
      subst hkn
      have hlt' : ¬ ((k : Int) < (k : Int)) := by omega
      have HF2 := Lib.hid hfi
      clear hfi hfB hfC
      go_wp2_with fail
      refine wp_region_ext rfl (by kernel_rfl) ?_
      repeat (quiet_step (fail))
      refine wpQuiet_nil ?_
      rintro w' ⟨z, rfl⟩
      have hz9 : z.now.cell? ⟨M, 9, none⟩ = some (.string s) := by rw [z.cell M 9 hBl']; exact (HF2.out.1.cell 9).trans rfl
      have st0 : Calls Tryz.prog 160 #[.pointer (some ⟨M, 9, none⟩), .int .i64 0] z.now fun e w' => e = .returned (.tuple #[.int .i32 (runeAt s 0), .int .i64 (wdAt s 0 : Nat)]) ∧ w' = z.now := step_at M 0 s hs (by omega) z.now hz9
      have st1 : Calls Tryz.prog 160 #[.pointer (some ⟨M, 9, none⟩), .int .i64 1] z.now fun e w' => e = .returned (.tuple #[.int .i32 (runeAt s 1), .int .i64 (wdAt s 1 : Nat)]) ∧ w' = z.now := step_at M 1 s hs (by omega) z.now hz9
      have hcase : (runeAt s 0 = -1 ∧ wdAt s 0 = 0 ∧ runeAt s 1 = -1 ∧ wdAt s 1 = 0) ∨ (runeAt s 0 ≠ -1 ∧ wdAt s 0 = 1) := by
        by_cases h0 : 0 < s.size
        · right
          refine ⟨?_, wdAt_in h0⟩
          have := (rune_bd s hs 0).2.2
          omega
        · left
          exact ⟨runeAt_out h0, wdAt_out h0, runeAt_out (by omega), wdAt_out (by omega)⟩
      have SA := Lib.hid st0
      have SB := Lib.hid st1
      have HME := Lib.hid hme
      clear st0 st1 hme
      rcases hcase with ⟨hr, hw, hr1, hw1⟩ | ⟨hr, hw⟩
      · have T0 := SA.out
        rw [hr, hw] at T0
        have T1 : Calls Tryz.prog 160 #[.pointer (some ⟨M, 9, none⟩), .int .i64 0] z.now fun e w' => e = .returned (.tuple #[.int .i32 (-1), .int .i64 0]) ∧ w' = z.now := T0
        have T0' := Lib.hid T1
        clear T0 T1
        go_wp2_with (first | (go_at_call 160; (with_reducible refine T0'.out.mono ?_); rintro e w2 ⟨rfl, rfl⟩) | (go_at_call 79; (with_reducible refine (flag_new _ _ _).mono ?_); rintro e w' ⟨rfl, rfl⟩))
        rename_i hK
        obtain ⟨F, hF⟩ : ∃ F, z.now.heap.size = F := ⟨_, rfl⟩
        rw [hF]
        rw [show flagOf (-1) (-1) = flagOf (-1) (runeAt s 0) by rw [hr]]
        have cz : Chg [] wr (z.now.alloc (Obj.cells #[Value.int .u64 (flagOf (-1) (runeAt s 0))] 168)) := ((Chg.of_below z.below).trans (Chg.alloc _ _)).mono (fun _ h _ => by cases h)
        have call : Chg [M, MC] w (z.now.alloc (Obj.cells #[Value.int .u64 (flagOf (-1) (runeAt s 0))] 168)) := ((HC1.out.trans HF2.out.2.2).trans cz).mono (fun _ h _ => by simpa using h)
        have hwF : w.heap.size ≤ F := by
          have h1 := (HC1.out.trans HF2.out.2.2).size
          have h2 := z.le
          omega
        have hap := HAP.out
        have hn : S0 ∉ [M, MC] ∧ D0 ∉ [M, MC] ∧ S1 ∉ [M, MC] ∧ D1 ∉ [M, MC] := by
          simp only [List.nodup_cons, List.mem_cons, List.not_mem_nil, or_false, not_or] at hap ⊢
          omega
        obtain ⟨sp0, a1, a2⟩ := H.out.s0
        obtain ⟨dl0, b1, b2⟩ := H.out.d0
        obtain ⟨sp1, c1, c2⟩ := H.out.s1
        obtain ⟨dl1, e1, e2⟩ := H.out.d1
        have hgeM := H.out.ge
        have bF : Blk (z.now.alloc (Obj.cells #[Value.int .u64 (flagOf (-1) (runeAt s 0))] 168)) F [.int .u64 (flagOf (-1) (runeAt s 0))] 168 := by rw [← hF]; exact Blk.new _ _ _
        have sm := mlY_mem (F := F) (HF2.out.1.chg cz (fun h => by cases h)) ((fill_end HF2.out).chg cz (fun h => by cases h)) ⟨sp0, a1.chg call hn.1, a2⟩ ⟨dl0, b1.chg call hn.2.1, b2⟩ ⟨sp1, c1.chg call hn.2.2.1, c2⟩ ⟨dl1, e1.chg call hn.2.2.2, e2⟩
          (H.out.prog.chg call (fun b hb => (hgeM b (by simp at hb ⊢; omega)).1)) (H.out.below.trans (call.below H.out.prog.le (fun b hb => (hgeM b (by simp at hb ⊢; omega)).1))) hap (fun b hb => ⟨(hgeM b hb).1, by have := (hgeM b hb).2; omega⟩) bF
        have hme := HME.out F
        have hnq0 : 0 < nq := by
          have h1 : np ≤ nq := hme.mo.so.ok.np.1
          have h2 : 1 < np := hme.np
          omega
        clear hap hn sp0 a1 a2 dl0 b1 b2 sp1 c1 c2 dl1 e1 e2 hgeM bF call cz
        show (Code.loop mtBody).wp Tryz.prog _ _ _
        refine match_loop hme sm rfl rfl ?_ (by show MF M 2 4 0 (runeAt s 0) (runeAt s 1) (wdAt s 0) (wdAt s 1) F _; rw [hr, hr1, hw, hw1]; constructor)
        intro Y f a' w' pos r' r1' wd wd1 q' pool' pb' mcap' hY hfr hm
        have mo' : MOk Y := by
          rcases hY with rfl | rfl
          · exact hme.mo.fl f
          · exact hme.mo.swap.fl f
        have eM : Y.L.M = M ∧ Y.L.MC = MC ∧ Y.L.N = N ∧ Y.w0 = w0 ∧ Y.L.tM = 128 ∧ Y.L.nc = k ∧ Y.L.nq = nq ∧ Y.L.ml[9]? = some (.string s) := by
          rcases hY with rfl | rfl <;> exact ⟨rfl, rfl, rfl, rfl, rfl, rfl, rfl, rfl⟩
        obtain ⟨g1, g2, g3, g4, g5, g6, g7, g8⟩ := eM
        have hcl := mt_close mo' hm (by omega)
        refine hK _ _ (mt_tail Y.L.M Y.L.qo Y.ro pos r' r1' wd wd1 Y.L.F w' _ (Closed Y r) hcl (fun w2 hc => ?_) ?_ hfr)
        · obtain ⟨_, _, ml, v0, v1, hb, _, _, h7, _⟩ := hc
          exact (hb.cell 7).trans h7
        · intro a2 w2 s1 s2 s3 hc
          obtain ⟨t, df⟩ := a2
          dsimp only at s1 s2 s3
          subst s2
          obtain ⟨h1, h2, ml, v0, v1, hb, i0, i1, i7, i8, i9⟩ := hc
          rw [g3, g4] at h1
          rw [g2] at h2
          rw [g1, g5] at hb
          rw [g2, g6] at i8
          rw [g8] at i9
          refine bodyPost_ret (v := .bool true) ?_ rfl ⟨rfl, h1, h2, ml, v0, v1, hb, i0, i1, i8, i9⟩
          have d3' : t[6]?.getD undef = .bool true := by rw [← Array.getD_eq_getD_getElem?]; exact s3
          simp [results, Tryz.results61, go_sem, d3']
      · go_wp2_with (first | (go_at_call 160; (with_reducible refine SA.out.mono ?_); rintro e w2 ⟨rfl, rfl⟩) | (go_at_call 160; (with_reducible refine SB.out.mono ?_); rintro e w2 ⟨rfl, rfl⟩) | (go_at_call 79; (with_reducible refine (flag_new _ _ _).mono ?_); rintro e w' ⟨rfl, rfl⟩))
        rename_i hK
        obtain ⟨F, hF⟩ : ∃ F, z.now.heap.size = F := ⟨_, rfl⟩
        rw [hF]
        have cz : Chg [] wr (z.now.alloc (Obj.cells #[Value.int .u64 (flagOf (-1) (runeAt s 0))] 168)) := ((Chg.of_below z.below).trans (Chg.alloc _ _)).mono (fun _ h _ => by cases h)
        have call : Chg [M, MC] w (z.now.alloc (Obj.cells #[Value.int .u64 (flagOf (-1) (runeAt s 0))] 168)) := ((HC1.out.trans HF2.out.2.2).trans cz).mono (fun _ h _ => by simpa using h)
        have hwF : w.heap.size ≤ F := by
          have h1 := (HC1.out.trans HF2.out.2.2).size
          have h2 := z.le
          omega
        have hap := HAP.out
        have hn : S0 ∉ [M, MC] ∧ D0 ∉ [M, MC] ∧ S1 ∉ [M, MC] ∧ D1 ∉ [M, MC] := by
          simp only [List.nodup_cons, List.mem_cons, List.not_mem_nil, or_false, not_or] at hap ⊢
          omega
        obtain ⟨sp0, a1, a2⟩ := H.out.s0
        obtain ⟨dl0, b1, b2⟩ := H.out.d0
        obtain ⟨sp1, c1, c2⟩ := H.out.s1
        obtain ⟨dl1, e1, e2⟩ := H.out.d1
        have hgeM := H.out.ge
        have bF : Blk (z.now.alloc (Obj.cells #[Value.int .u64 (flagOf (-1) (runeAt s 0))] 168)) F [.int .u64 (flagOf (-1) (runeAt s 0))] 168 := by rw [← hF]; exact Blk.new _ _ _
        have sm := mlY_mem (F := F) (HF2.out.1.chg cz (fun h => by cases h)) ((fill_end HF2.out).chg cz (fun h => by cases h)) ⟨sp0, a1.chg call hn.1, a2⟩ ⟨dl0, b1.chg call hn.2.1, b2⟩ ⟨sp1, c1.chg call hn.2.2.1, c2⟩ ⟨dl1, e1.chg call hn.2.2.2, e2⟩
          (H.out.prog.chg call (fun b hb => (hgeM b (by simp at hb ⊢; omega)).1)) (H.out.below.trans (call.below H.out.prog.le (fun b hb => (hgeM b (by simp at hb ⊢; omega)).1))) hap (fun b hb => ⟨(hgeM b hb).1, by have := (hgeM b hb).2; omega⟩) bF
        have hme := HME.out F
        have hnq0 : 0 < nq := by
          have h1 : np ≤ nq := hme.mo.so.ok.np.1
          have h2 : 1 < np := hme.np
          omega
        clear hap hn sp0 a1 a2 dl0 b1 b2 sp1 c1 c2 dl1 e1 e2 hgeM bF call cz
        show (Code.loop mtBody).wp Tryz.prog _ _ _
        refine match_loop hme sm rfl rfl ?_ (by show MF M 2 4 0 (runeAt s 0) (runeAt s 1) (wdAt s 0) (wdAt s 1) F _; rw [hw]; constructor)
        intro Y f a' w' pos r' r1' wd wd1 q' pool' pb' mcap' hY hfr hm
        have mo' : MOk Y := by
          rcases hY with rfl | rfl
          · exact hme.mo.fl f
          · exact hme.mo.swap.fl f
        have eM : Y.L.M = M ∧ Y.L.MC = MC ∧ Y.L.N = N ∧ Y.w0 = w0 ∧ Y.L.tM = 128 ∧ Y.L.nc = k ∧ Y.L.nq = nq ∧ Y.L.ml[9]? = some (.string s) := by
          rcases hY with rfl | rfl <;> exact ⟨rfl, rfl, rfl, rfl, rfl, rfl, rfl, rfl⟩
        obtain ⟨g1, g2, g3, g4, g5, g6, g7, g8⟩ := eM
        have hcl := mt_close mo' hm (by omega)
        refine hK _ _ (mt_tail Y.L.M Y.L.qo Y.ro pos r' r1' wd wd1 Y.L.F w' _ (Closed Y r) hcl (fun w2 hc => ?_) ?_ hfr)
        · obtain ⟨_, _, ml, v0, v1, hb, _, _, h7, _⟩ := hc
          exact (hb.cell 7).trans h7
        · intro a2 w2 s1 s2 s3 hc
          obtain ⟨t, df⟩ := a2
          dsimp only at s1 s2 s3
          subst s2
          obtain ⟨h1, h2, ml, v0, v1, hb, i0, i1, i7, i8, i9⟩ := hc
          rw [g3, g4] at h1
          rw [g2] at h2
          rw [g1, g5] at hb
          rw [g2, g6] at i8
          rw [g8] at i9
          refine bodyPost_ret (v := .bool true) ?_ rfl ⟨rfl, h1, h2, ml, v0, v1, hb, i0, i1, i8, i9⟩
          have d3' : t[6]?.getD undef = .bool true := by rw [← Array.getD_eq_getD_getElem?]; exact s3
          simp [results, Tryz.results61, go_sem, d3']

end Go.Proofs.YtooggfopjaaejaaGreatDoor
namespace Go.Rx

/-- Instructions that follow one another. -/
structure Run where
  n : Nat
  op : Nat
  out : Nat
  dout : Int
  arg : Nat
  darg : Int
  rune : List Int

def Run.inst (r : Run) (k : Nat) : Inst := ⟨r.op, ((r.out : Int) + k * r.dout).toNat, ((r.arg : Int) + k * r.darg).toNat, r.rune⟩
def Run.insts (r : Run) : List Inst := (List.range r.n).map r.inst
def expand (l : List Run) : List Inst := l.flatMap Run.insts

/-- An instruction that takes nothing. -/
def deaf : Inst := ⟨8, 0, 0, [-2]⟩
/-- A table read as a program; the instruction 0, which no way comes to, takes nothing. -/
def progOf (l : List Inst) (pc : Nat) : Inst := if pc = 0 then deaf else l.getD pc deaf
def rankOf (l : List Nat) (pc : Nat) : Nat := l.getD pc 0

/-- What is decided of an instruction. -/
def instOk (np nc : Nat) (rank : Nat → Nat) (cls : List Int → Bool) (pc : Nat) (i : Inst) : Bool :=
  (i.op == 0 && decide (0 < i.out) && decide (i.out < np) && decide (0 < i.arg) && decide (i.arg < np) && decide (rank i.out < rank pc) && decide (rank i.arg < rank pc) && i.rune.isEmpty) ||
  (i.op == 2 && decide (0 < i.out) && decide (i.out < np) && decide (i.arg < nc) && decide (rank i.out < rank pc) && i.rune.isEmpty) ||
  (i.op == 3 && decide (0 < i.out) && decide (i.out < np) && (i.arg == 4 || i.arg == 8) && decide (rank i.out < rank pc) && i.rune.isEmpty) ||
  (i.op == 4 && i.rune.isEmpty) ||
  (i.op == 6 && decide (0 < i.out) && decide (i.out < np) && decide (rank i.out < rank pc) && i.rune.isEmpty) ||
  (i.op == 7 && decide (0 < i.out) && decide (i.out < np) && cls i.rune) ||
  (i.op == 8 && decide (0 < i.out) && decide (i.out < np) && decide (i.rune.length = 1) && decide (0 ≤ i.rune.getD 0 (-1)))

/-- A table is fit. -/
def tableOk (l : List Inst) (nc : Nat) (rl : List Nat) (top : Nat) (cls : List Int → Bool) : Bool :=
  (List.range l.length).all fun pc => pc == 0 || instOk l.length nc (rankOf rl) cls pc (progOf l pc)

end Go.Rx
namespace Go.Proofs.YtooggfopjaaejaaGreatDoor
open Go.RowKit Go.Rx

def clsOk (l : List Int) : Bool := (l.length == 1 || l.length == 2 || l.length == 4 || l.length == 6 || l.length == 8 || l.length == 10) && classTakes l (-1) == false

/-- What is known of a fit table's instruction. -/
structure Fit (l : List Inst) (nc : Nat) (rank : Nat → Nat) (pc : Nat) : Prop where
  ops : (progOf l pc).op = 0 ∨ (progOf l pc).op = 2 ∨ (progOf l pc).op = 3 ∨ (progOf l pc).op = 4 ∨ (progOf l pc).op = 6 ∨ (progOf l pc).op = 7 ∨ (progOf l pc).op = 8
  out : (progOf l pc).op ≠ 4 → 0 < (progOf l pc).out ∧ (progOf l pc).out < l.length
  alt : (progOf l pc).op = 0 → 0 < (progOf l pc).arg ∧ (progOf l pc).arg < l.length
  cap : (progOf l pc).op = 2 → (progOf l pc).arg < nc
  ew : (progOf l pc).op = 3 → (progOf l pc).arg = 4 ∨ (progOf l pc).arg = 8
  cls : (progOf l pc).op = 7 → ClassLen (progOf l pc).rune.length ∧ classTakes (progOf l pc).rune (-1) = false
  one : (progOf l pc).op = 8 → ∃ x, (progOf l pc).rune = [x] ∧ 0 ≤ x
  nil : (progOf l pc).op ≠ 7 → (progOf l pc).op ≠ 8 → (progOf l pc).rune = []
  ralt : (progOf l pc).op = 0 → rank (progOf l pc).out < rank pc ∧ rank (progOf l pc).arg < rank pc
  rfree : (progOf l pc).op = 2 ∨ (progOf l pc).op = 3 ∨ (progOf l pc).op = 6 → rank (progOf l pc).out < rank pc

theorem fit_of {l : List Inst} {nc : Nat} {rl : List Nat} {top : Nat} (h : tableOk l nc rl top clsOk = true) {pc : Nat} (h0 : 0 < pc) (h1 : pc < l.length) : Fit l nc (rankOf rl) pc := by
  have h2 := (List.all_eq_true.1 h) pc (List.mem_range.2 h1)
  have h3 : (pc == 0) = false := by simp; omega
  rw [h3, Bool.false_or] at h2
  obtain ⟨i, hi⟩ : ∃ i, progOf l pc = i := ⟨_, rfl⟩
  rw [hi] at h2
  simp only [instOk, Bool.or_eq_true, Bool.and_eq_true, beq_iff_eq, decide_eq_true_eq, List.isEmpty_iff] at h2
  have key : (i.op = 7 → ClassLen i.rune.length ∧ classTakes i.rune (-1) = false) ∧ (i.op = 8 → ∃ x, i.rune = [x] ∧ 0 ≤ x) := by
    refine ⟨fun e => ?_, fun e => ?_⟩
    · have h4 : clsOk i.rune = true := by
        rcases h2 with (((((h2 | h2) | h2) | h2) | h2) | h2) | h2
        · omega
        · omega
        · omega
        · omega
        · omega
        · exact h2.2
        · omega
      unfold clsOk at h4
      simp only [Bool.or_eq_true, Bool.and_eq_true, beq_iff_eq] at h4
      exact ⟨by unfold ClassLen; omega, h4.2⟩
    · have h4 : i.rune.length = 1 ∧ 0 ≤ i.rune.getD 0 (-1) := by
        rcases h2 with (((((h2 | h2) | h2) | h2) | h2) | h2) | h2
        · omega
        · omega
        · omega
        · omega
        · omega
        · omega
        · exact ⟨h2.1.2, h2.2⟩
      obtain ⟨x, hx⟩ := List.length_eq_one_iff.1 h4.1
      rw [hx] at h4
      exact ⟨x, hx, h4.2⟩
  constructor
  case cls => rw [hi]; exact key.1
  case one => rw [hi]; exact key.2
  case nil =>
    rw [hi]
    intro n7 n8
    rcases h2 with (((((h2 | h2) | h2) | h2) | h2) | h2) | h2
    · exact h2.2
    · exact h2.2
    · exact h2.2
    · exact h2.2
    · exact h2.2
    · omega
    · omega
  all_goals rw [hi]
  all_goals clear key
  all_goals omega

section
variable {l : List Inst} {nc : Nat} {rl : List Nat} {top : Nat} (h : tableOk l nc rl top clsOk = true)
include h

theorem prog_far {pc : Nat} (h1 : pc = 0 ∨ l.length ≤ pc) : progOf l pc = deaf := by
  clear h
  unfold progOf
  split
  · rfl
  · rename_i h0
    rw [List.getD_eq_getElem?_getD, List.getElem?_eq_none (by omega)]
    rfl

theorem prog_any (pc : Nat) : progOf l pc = deaf ∨ Fit l nc (rankOf rl) pc := by
  by_cases h1 : pc = 0 ∨ l.length ≤ pc
  · exact .inl (prog_far h h1)
  · exact .inr (fit_of h (by omega) (by omega))

theorem table_ok (s : ByteArray) (hs : Plain s) (ht : ∀ pc, rankOf rl pc < top) : (envAt (progOf l) s (rankOf rl) top).Ok := by
  refine ⟨?_, ht, ?_, ?_, ?_, ?_⟩
  · intro p hp
    show 1 ≤ (if p < s.size then 1 else 0) ∧ p + (if p < s.size then 1 else 0) ≤ s.size
    have hp' : p < s.size := hp
    rw [if_pos hp']
    omega
  · intro p pc hp
    have hp' : ¬ p < s.size := by have : s.size ≤ p := hp; omega
    show (if (progOf l pc).op = 7 then classTakes (progOf l pc).rune (runeAt s p) else decide ((progOf l pc).rune = [runeAt s p])) = false
    rw [runeAt_out hp']
    rcases prog_any h pc with e | f
    · rw [e]; rfl
    · split
      · rename_i h7; exact (f.cls h7).2
      · by_cases h8 : (progOf l pc).op = 8
        · obtain ⟨x, hx, hx0⟩ := f.one h8
          rw [hx]
          refine decide_eq_false ?_
          intro e
          simp at e
          omega
        · rename_i h7
          rw [f.nil h7 h8]
          rfl
  · intro pc
    rcases prog_any h pc with e | f
    · show (progOf l pc).op ≠ 1 ∧ (progOf l pc).op ≤ 10
      rw [e]; decide
    · have := f.ops
      show (progOf l pc).op ≠ 1 ∧ (progOf l pc).op ≤ 10
      omega
  · intro pc h0
    rcases prog_any h pc with e | f
    · have h0' : (progOf l pc).op = 0 := h0
      rw [e] at h0'
      cases h0'
    · exact f.ralt h0
  · intro pc h0
    rcases prog_any h pc with e | f
    · have h0' : (progOf l pc).op = 2 ∨ (progOf l pc).op = 3 ∨ (progOf l pc).op = 6 := h0
      rw [e] at h0'
      exact absurd h0' (by decide)
    · exact f.rfree h0

theorem table_nofail (s : ByteArray) : Env.NoFail (envAt (progOf l) s (rankOf rl) top) := by
  intro pc
  show (progOf l pc).op ≠ 5
  rcases prog_any h pc with e | f
  · rw [e]; decide
  · have := f.ops; omega
end

section
variable {l : List Inst} {rl : List Nat} {top : Nat} {s : ByteArray}

theorem takes_at : Takes (envAt (progOf l) s (rankOf rl) top) := by
  refine ⟨fun i r h => ?_, fun i r h => ?_⟩
  · show (if i.op = 7 then classTakes i.rune r else decide (i.rune = [r])) = _
    rw [if_pos h]
  · show (if i.op = 7 then classTakes i.rune r else decide (i.rune = [r])) = _
    rw [if_neg (by omega)]

theorem widths_at : Widths (envAt (progOf l) s (rankOf rl) top) := ⟨fun _ => rfl, fun _ => rfl⟩

/-- A text's bytes as numbers. -/
def nats (s : ByteArray) : List Nat := s.data.toList.map UInt8.toNat

theorem nats_length (s : ByteArray) : (nats s).length = s.size := by
  unfold nats
  rw [List.length_map, Array.length_toList]
  rfl

theorem nats_at (s : ByteArray) (p : Nat) (h : p < s.size) : (nats s).getD p 0 = (s[p]'h).toNat := by
  unfold nats
  have h1 : p < s.data.toList.length := by rw [Array.length_toList]; exact h
  rw [List.getD_eq_getElem?_getD, List.getElem?_map, List.getElem?_eq_getElem h1]
  rfl

theorem nats_plain {s : ByteArray} (h : Plain s) : ∀ x, x ∈ nats s → x < 128 := by
  intro x hx
  obtain ⟨i, hi, rfl⟩ := List.mem_iff_getElem.1 hx
  have hi2 : i < s.size := by rw [← nats_length]; exact hi
  have := nats_at s i hi2
  rw [List.getD_eq_getElem?_getD, List.getElem?_eq_getElem hi] at this
  have h2 := h i hi2
  simp at this
  omega

theorem over_at {nc : Nat} (h : tableOk l nc rl top clsOk = true) (hs : Plain s) (ht : ∀ pc, rankOf rl pc < top) : Env.Over (envAt (progOf l) s (rankOf rl) top) (nats s) := by
  refine ⟨(nats_length s).symm, fun p hp => ?_, fun p pc hp => ?_⟩
  · rw [nats_length] at hp
    show (runeAt s p, if p < s.size then 1 else 0) = _
    rw [if_pos hp, nats_at s p hp]
    unfold runeAt
    rw [dif_pos hp]
  · rw [nats_length] at hp
    exact (table_ok h s hs ht).ends p pc hp

theorem zero_dead {nc : Nat} (h : tableOk l nc rl top clsOk = true) (hs : Plain s) (ht : ∀ pc, rankOf rl pc < top) : Env.ZeroDead (envAt (progOf l) s (rankOf rl) top) := by
  intro p c
  rw [Env.res_eq (table_ok h s hs ht)]
  have e : (envAt (progOf l) s (rankOf rl) top).prog 0 = deaf := rfl
  rw [e]
  have h2 : (envAt (progOf l) s (rankOf rl) top).takes deaf ((envAt (progOf l) s (rankOf rl) top).st p).1 = false := by
    show decide ([-2] = [runeAt s p]) = false
    refine decide_eq_false ?_
    intro e
    have := (rune_bd s hs p).1
    simp at e
    omega
  simp only [h2]
  simp [deaf]

/-- Anchored at the begin. -/
theorem anch_at {nc o : Nat} (h : tableOk l nc rl top clsOk = true) (hs : Plain s) (ht : ∀ pc, rankOf rl pc < top) (h1 : progOf l 1 = ⟨3, o, 4, []⟩) : Env.Anch (envAt (progOf l) s (rankOf rl) top) 1 := by
  have hE := table_ok h s hs ht
  refine ⟨hE, zero_dead h hs ht, fun p c hp => ?_, fun p hp => ?_, fun p hp => ⟨?_, fun pc => hE.ends p pc hp⟩⟩
  · rw [Env.res_eq hE]
    have e : (envAt (progOf l) s (rankOf rl) top).prog 1 = ⟨3, o, 4, []⟩ := h1
    have e2 : (envAt (progOf l) s (rankOf rl) top).ew 4 p = false := decide_eq_false (by omega)
    rw [e]
    simp [e2]
  · have hp' : p < s.size := hp
    show 0 < (if p < s.size then 1 else 0) ∧ p + (if p < s.size then 1 else 0) ≤ s.size
    rw [if_pos hp']
    omega
  · have hp' : ¬ p < s.size := by have : s.size ≤ p := hp; omega
    show (if p < s.size then 1 else 0) = 0
    rw [if_neg hp']

theorem table_at {nc : Nat} (h : tableOk l nc rl top clsOk = true) : Table (progOf l) l.length := by
  refine ⟨fun pc h0 h1 h7 => ((fit_of h h0 h1).cls h7).1, fun pc h0 h1 h8 => ?_⟩
  obtain ⟨x, hx, _⟩ := (fit_of h h0 h1).one h8
  exact ⟨x, hx⟩

theorem wf_at {nc : Nat} (h : tableOk l nc rl top clsOk = true) (hnc : 2 ≤ nc ∧ nc < 100) : ∀ L : Lay, L.np = l.length → L.pg = progOf l → L.nc = nc → Wf L := by
  intro L e1 e2 e3
  constructor
  · rw [e3]; exact hnc
  all_goals
    intro pc h0 h1
    rw [e1] at h1
    have f := fit_of h h0 h1
    rw [e2]
  · exact f.ops
  · rw [e1]; exact f.out
  · rw [e1]; exact f.alt
  · rw [e3]; exact f.cap
  · exact f.ew
  · exact f.cls
  · intro h8
    obtain ⟨x, hx, hx0⟩ := f.one h8
    exact ⟨x, hx, by omega⟩
end

/-- The runs of ZZRefReference. -/
def refRuns : List Run := [
  ⟨1, 5, 0, 0, 0, 0, []⟩,
  ⟨1, 3, 2, 0, 4, 0, []⟩,
  ⟨1, 2, 27, 0, 2, 0, []⟩,
  ⟨1, 7, 8, 0, 0, 0, [48, 57, 65, 90, 97, 122]⟩,
  ⟨1, 6, 16, 0, 0, 0, []⟩,
  ⟨1, 7, 6, 0, 0, 0, [45, 45, 48, 57, 65, 90, 97, 122]⟩,
  ⟨1, 0, 5, 0, 7, 0, []⟩,
  ⟨1, 7, 16, 0, 0, 0, [48, 57, 65, 90, 97, 122]⟩,
  ⟨1, 0, 4, 0, 6, 0, []⟩,
  ⟨1, 8, 10, 0, 0, 0, [46]⟩,
  ⟨1, 7, 15, 0, 0, 0, [48, 57, 65, 90, 97, 122]⟩,
  ⟨1, 6, 16, 0, 0, 0, []⟩,
  ⟨1, 7, 13, 0, 0, 0, [45, 45, 48, 57, 65, 90, 97, 122]⟩,
  ⟨1, 0, 12, 0, 14, 0, []⟩,
  ⟨1, 7, 16, 0, 0, 0, [48, 57, 65, 90, 97, 122]⟩,
  ⟨1, 0, 11, 0, 13, 0, []⟩,
  ⟨1, 0, 9, 0, 25, 0, []⟩,
  ⟨1, 8, 18, 0, 0, 0, [91]⟩,
  ⟨1, 7, 19, 0, 0, 0, [48, 58, 65, 70, 97, 102]⟩,
  ⟨1, 0, 18, 0, 20, 0, []⟩,
  ⟨1, 8, 25, 0, 0, 0, [93]⟩,
  ⟨1, 0, 3, 0, 17, 0, []⟩,
  ⟨1, 8, 23, 0, 0, 0, [58]⟩,
  ⟨1, 7, 24, 0, 0, 0, [48, 57]⟩,
  ⟨1, 0, 23, 0, 26, 0, []⟩,
  ⟨1, 0, 22, 0, 26, 0, []⟩,
  ⟨1, 8, 28, 0, 0, 0, [47]⟩,
  ⟨1, 0, 21, 0, 28, 0, []⟩,
  ⟨1, 7, 29, 0, 0, 0, [48, 57, 97, 122]⟩,
  ⟨1, 0, 28, 0, 39, 0, []⟩,
  ⟨1, 7, 37, 0, 0, 0, [46, 46, 95, 95]⟩,
  ⟨1, 8, 32, 0, 0, 0, [95]⟩,
  ⟨1, 8, 37, 0, 0, 0, [95]⟩,
  ⟨1, 0, 30, 0, 31, 0, []⟩,
  ⟨1, 8, 35, 0, 0, 0, [45]⟩,
  ⟨1, 0, 34, 0, 37, 0, []⟩,
  ⟨1, 0, 33, 0, 34, 0, []⟩,
  ⟨1, 7, 38, 0, 0, 0, [48, 57, 97, 122]⟩,
  ⟨1, 0, 37, 0, 39, 0, []⟩,
  ⟨1, 0, 36, 0, 53, 0, []⟩,
  ⟨1, 8, 41, 0, 0, 0, [47]⟩,
  ⟨1, 7, 42, 0, 0, 0, [48, 57, 97, 122]⟩,
  ⟨1, 0, 41, 0, 52, 0, []⟩,
  ⟨1, 7, 50, 0, 0, 0, [46, 46, 95, 95]⟩,
  ⟨1, 8, 45, 0, 0, 0, [95]⟩,
  ⟨1, 8, 50, 0, 0, 0, [95]⟩,
  ⟨1, 0, 43, 0, 44, 0, []⟩,
  ⟨1, 8, 48, 0, 0, 0, [45]⟩,
  ⟨1, 0, 47, 0, 50, 0, []⟩,
  ⟨1, 0, 46, 0, 47, 0, []⟩,
  ⟨1, 7, 51, 0, 0, 0, [48, 57, 97, 122]⟩,
  ⟨1, 0, 50, 0, 52, 0, []⟩,
  ⟨1, 0, 49, 0, 53, 0, []⟩,
  ⟨1, 0, 40, 0, 54, 0, []⟩,
  ⟨1, 2, 313, 0, 3, 0, []⟩,
  ⟨1, 8, 56, 0, 0, 0, [58]⟩,
  ⟨1, 2, 57, 0, 4, 0, []⟩,
  ⟨1, 7, 311, 0, 0, 0, [48, 57, 65, 90, 95, 95, 97, 122]⟩,
  ⟨126, 7, 310, -1, 0, 0, [45, 46, 48, 57, 65, 90, 95, 95, 97, 122]⟩,
  ⟨1, 7, 312, 0, 0, 0, [45, 46, 48, 57, 65, 90, 95, 95, 97, 122]⟩,
  ⟨127, 0, 184, -1, 312, 0, []⟩,
  ⟨1, 2, 359, 0, 5, 0, []⟩,
  ⟨1, 0, 55, 0, 359, 0, []⟩,
  ⟨1, 8, 315, 0, 0, 0, [64]⟩,
  ⟨1, 2, 316, 0, 6, 0, []⟩,
  ⟨1, 7, 318, 0, 0, 0, [65, 90, 97, 122]⟩,
  ⟨1, 7, 318, 0, 0, 0, [48, 57, 65, 90, 97, 122]⟩,
  ⟨1, 0, 317, 0, 323, 0, []⟩,
  ⟨1, 7, 320, 0, 0, 0, [43, 43, 45, 46, 95, 95]⟩,
  ⟨1, 7, 322, 0, 0, 0, [65, 90, 97, 122]⟩,
  ⟨1, 7, 322, 0, 0, 0, [48, 57, 65, 90, 97, 122]⟩,
  ⟨1, 0, 321, 0, 323, 0, []⟩,
  ⟨1, 0, 319, 0, 324, 0, []⟩,
  ⟨1, 8, 325, 0, 0, 0, [58]⟩,
  ⟨32, 7, 326, 1, 0, 0, [48, 57, 65, 70, 97, 102]⟩,
  ⟨1, 0, 356, 0, 358, 0, []⟩,
  ⟨1, 2, 360, 0, 7, 0, []⟩,
  ⟨1, 0, 314, 0, 360, 0, []⟩,
  ⟨1, 3, 361, 0, 8, 0, []⟩,
  ⟨1, 4, 0, 0, 0, 0, []⟩]
def refList : List Inst := expand refRuns
def refRanks : List Nat := [0, 4, 3, 0, 3, 0, 1, 0, 4, 0, 0, 3, 0, 1, 0, 4, 2, 0, 0, 1, 0, 1, 0, 0, 1, 1, 0, 2, 0, 7, 0, 0, 0, 1, 0, 1, 2, 0, 7, 6, 0, 0, 7, 0, 0, 0, 1, 0, 1, 2, 0, 7, 6, 5, 4, 0, 1, 0, 0, 0, 0, 0, 0, 0, 0, 0, 0, 0, 0, 0, 0, 0, 0, 0, 0, 0, 0, 0, 0, 0, 0, 0, 0, 0, 0, 0, 0, 0, 0, 0, 0, 0, 0, 0, 0, 0, 0, 0, 0, 0, 0, 0, 0, 0, 0, 0, 0, 0, 0, 0, 0, 0, 0, 0, 0, 0, 0, 0, 0, 0, 0, 0, 0, 0, 0, 0, 0, 0, 0, 0, 0, 0, 0, 0, 0, 0, 0, 0, 0, 0, 0, 0, 0, 0, 0, 0, 0, 0, 0, 0, 0, 0, 0, 0, 0, 0, 0, 0, 0, 0, 0, 0, 0, 0, 0, 0, 0, 0, 0, 0, 0, 0, 0, 0, 0, 0, 0, 0, 0, 0, 0, 0, 0, 0, 0, 4, 4, 4, 4, 4, 4, 4, 4, 4, 4, 4, 4, 4, 4, 4, 4, 4, 4, 4, 4, 4, 4, 4, 4, 4, 4, 4, 4, 4, 4, 4, 4, 4, 4, 4, 4, 4, 4, 4, 4, 4, 4, 4, 4, 4, 4, 4, 4, 4, 4, 4, 4, 4, 4, 4, 4, 4, 4, 4, 4, 4, 4, 4, 4, 4, 4, 4, 4, 4, 4, 4, 4, 4, 4, 4, 4, 4, 4, 4, 4, 4, 4, 4, 4, 4, 4, 4, 4, 4, 4, 4, 4, 4, 4, 4, 4, 4, 4, 4, 4, 4, 4, 4, 4, 4, 4, 4, 4, 4, 4, 4, 4, 4, 4, 4, 4, 4, 4, 4, 4, 4, 4, 4, 4, 4, 4, 4, 3, 3, 0, 1, 0, 0, 2, 0, 0, 0, 2, 1, 0, 0, 0, 0, 0, 0, 0, 0, 0, 0, 0, 0, 0, 0, 0, 0, 0, 0, 0, 0, 0, 0, 0, 0, 0, 0, 0, 0, 0, 0, 0, 0, 0, 3, 2, 2, 1, 0]
theorem ref_len : refList.length = 362 := by decide +kernel
theorem ref_fit : tableOk refList 8 refRanks 8 clsOk = true := by decide +kernel
theorem ref_top : ∀ pc, rankOf refRanks pc < 8 := by
  intro pc
  unfold rankOf
  by_cases h : pc < 362
  · exact (by decide +kernel : ∀ pc, pc < 362 → refRanks.getD pc 0 < 8) pc h
  · rw [List.getD_eq_getElem?_getD, List.getElem?_eq_none (by have : refRanks.length = 362 := by decide +kernel
                                                              omega)]
    decide

/-- The runs of ZZRefAnchoredName. -/
def nameRuns : List Run := [
  ⟨1, 5, 0, 0, 0, 0, []⟩,
  ⟨1, 3, 28, 0, 4, 0, []⟩,
  ⟨1, 2, 21, 0, 2, 0, []⟩,
  ⟨1, 7, 8, 0, 0, 0, [48, 57, 65, 90, 97, 122]⟩,
  ⟨1, 6, 16, 0, 0, 0, []⟩,
  ⟨1, 7, 6, 0, 0, 0, [45, 45, 48, 57, 65, 90, 97, 122]⟩,
  ⟨1, 0, 5, 0, 7, 0, []⟩,
  ⟨1, 7, 16, 0, 0, 0, [48, 57, 65, 90, 97, 122]⟩,
  ⟨1, 0, 4, 0, 6, 0, []⟩,
  ⟨1, 8, 10, 0, 0, 0, [46]⟩,
  ⟨1, 7, 15, 0, 0, 0, [48, 57, 65, 90, 97, 122]⟩,
  ⟨1, 6, 16, 0, 0, 0, []⟩,
  ⟨1, 7, 13, 0, 0, 0, [45, 45, 48, 57, 65, 90, 97, 122]⟩,
  ⟨1, 0, 12, 0, 14, 0, []⟩,
  ⟨1, 7, 16, 0, 0, 0, [48, 57, 65, 90, 97, 122]⟩,
  ⟨1, 0, 11, 0, 13, 0, []⟩,
  ⟨1, 0, 9, 0, 25, 0, []⟩,
  ⟨1, 8, 18, 0, 0, 0, [91]⟩,
  ⟨1, 7, 19, 0, 0, 0, [48, 58, 65, 70, 97, 102]⟩,
  ⟨1, 0, 18, 0, 20, 0, []⟩,
  ⟨1, 8, 25, 0, 0, 0, [93]⟩,
  ⟨1, 0, 3, 0, 17, 0, []⟩,
  ⟨1, 8, 23, 0, 0, 0, [58]⟩,
  ⟨1, 7, 24, 0, 0, 0, [48, 57]⟩,
  ⟨1, 0, 23, 0, 26, 0, []⟩,
  ⟨1, 0, 22, 0, 26, 0, []⟩,
  ⟨1, 2, 27, 0, 3, 0, []⟩,
  ⟨1, 8, 29, 0, 0, 0, [47]⟩,
  ⟨1, 0, 2, 0, 29, 0, []⟩,
  ⟨1, 2, 30, 0, 4, 0, []⟩,
  ⟨1, 7, 31, 0, 0, 0, [48, 57, 97, 122]⟩,
  ⟨1, 0, 30, 0, 41, 0, []⟩,
  ⟨1, 7, 39, 0, 0, 0, [46, 46, 95, 95]⟩,
  ⟨1, 8, 34, 0, 0, 0, [95]⟩,
  ⟨1, 8, 39, 0, 0, 0, [95]⟩,
  ⟨1, 0, 32, 0, 33, 0, []⟩,
  ⟨1, 8, 37, 0, 0, 0, [45]⟩,
  ⟨1, 0, 36, 0, 39, 0, []⟩,
  ⟨1, 0, 35, 0, 36, 0, []⟩,
  ⟨1, 7, 40, 0, 0, 0, [48, 57, 97, 122]⟩,
  ⟨1, 0, 39, 0, 41, 0, []⟩,
  ⟨1, 0, 38, 0, 55, 0, []⟩,
  ⟨1, 8, 43, 0, 0, 0, [47]⟩,
  ⟨1, 7, 44, 0, 0, 0, [48, 57, 97, 122]⟩,
  ⟨1, 0, 43, 0, 54, 0, []⟩,
  ⟨1, 7, 52, 0, 0, 0, [46, 46, 95, 95]⟩,
  ⟨1, 8, 47, 0, 0, 0, [95]⟩,
  ⟨1, 8, 52, 0, 0, 0, [95]⟩,
  ⟨1, 0, 45, 0, 46, 0, []⟩,
  ⟨1, 8, 50, 0, 0, 0, [45]⟩,
  ⟨1, 0, 49, 0, 52, 0, []⟩,
  ⟨1, 0, 48, 0, 49, 0, []⟩,
  ⟨1, 7, 53, 0, 0, 0, [48, 57, 97, 122]⟩,
  ⟨1, 0, 52, 0, 54, 0, []⟩,
  ⟨1, 0, 51, 0, 55, 0, []⟩,
  ⟨1, 0, 42, 0, 56, 0, []⟩,
  ⟨1, 2, 57, 0, 5, 0, []⟩,
  ⟨1, 3, 58, 0, 8, 0, []⟩,
  ⟨1, 4, 0, 0, 0, 0, []⟩]
def nameList : List Inst := expand nameRuns
def nameRanks : List Nat := [0, 4, 2, 0, 4, 0, 1, 0, 5, 0, 0, 4, 0, 1, 0, 5, 3, 0, 0, 1, 0, 1, 0, 0, 2, 2, 1, 0, 3, 1, 0, 5, 0, 0, 0, 1, 0, 1, 2, 0, 5, 4, 0, 0, 5, 0, 0, 0, 1, 0, 1, 2, 0, 5, 4, 3, 2, 1, 0]
theorem name_len : nameList.length = 59 := by decide +kernel
theorem name_fit : tableOk nameList 6 nameRanks 6 clsOk = true := by decide +kernel
theorem name_top : ∀ pc, rankOf nameRanks pc < 6 := by
  intro pc
  unfold rankOf
  by_cases h : pc < 59
  · exact (by decide +kernel : ∀ pc, pc < 59 → nameRanks.getD pc 0 < 6) pc h
  · rw [List.getD_eq_getElem?_getD, List.getElem?_eq_none (by have : nameRanks.length = 59 := by decide +kernel
                                                              omega)]
    decide


end Go.Proofs.YtooggfopjaaejaaGreatDoor
namespace Go.Rx

def instEq (a b : Inst) : Bool := a.op == b.op && a.out == b.out && a.arg == b.arg && a.rune == b.rune
theorem eq_of_instEq {a b : Inst} (h : instEq a b = true) : a = b := by
  obtain ⟨a1, a2, a3, a4⟩ := a
  obtain ⟨b1, b2, b3, b4⟩ := b
  simp only [instEq, Bool.and_eq_true, beq_iff_eq] at h
  obtain ⟨⟨⟨rfl, rfl⟩, rfl⟩, rfl⟩ := h
  rfl

end Go.Rx
namespace Go.Proofs.YtooggfopjaaejaaGreatDoor
open Go.RowKit Go.Rx

section
variable (s : ByteArray) (rank : Nat → Nat) (top : Nat)

theorem ref_at : RefAt (envAt (progOf refList) s rank top) := by
  constructor
  case dom => constructor <;> (refine eq_of_instEq ?_; show instEq (progOf refList _) _ = true; decide +kernel)
  case path => constructor <;> (refine eq_of_instEq ?_; show instEq (progOf refList _) _ = true; decide +kernel)
  case tag =>
    constructor
    case more =>
      intro j hj
      exact eq_of_instEq (a := progOf refList _) ((by decide +kernel : ∀ j, j < 126 → instEq (progOf refList (58 + j)) ⟨7, 310 - j, 0, [45, 46, 48, 57, 65, 90, 95, 95, 97, 122]⟩ = true) j hj)
    case alts =>
      intro j hj
      exact eq_of_instEq (a := progOf refList _) ((by decide +kernel : ∀ j, j < 127 → instEq (progOf refList (311 - j)) ⟨0, 58 + j, 312, []⟩ = true) j hj)
    all_goals (refine eq_of_instEq ?_; show instEq (progOf refList _) _ = true; decide +kernel)
  case dig =>
    constructor
    case hexs =>
      intro j hj
      exact eq_of_instEq (a := progOf refList _) ((by decide +kernel : ∀ j, j < 32 → instEq (progOf refList (325 + j)) ⟨7, 326 + j, 0, [48, 57, 65, 70, 97, 102]⟩ = true) j hj)
    all_goals (refine eq_of_instEq ?_; show instEq (progOf refList _) _ = true; decide +kernel)
  case f361 => exact (by decide +kernel : (progOf refList 361).op = 4)
  all_goals (refine eq_of_instEq ?_; show instEq (progOf refList _) _ = true; decide +kernel)

theorem name_at : NameAt (envAt (progOf nameList) s rank top) := by
  constructor
  case dom => constructor <;> (refine eq_of_instEq ?_; show instEq (progOf nameList _) _ = true; decide +kernel)
  case path => constructor <;> (refine eq_of_instEq ?_; show instEq (progOf nameList _) _ = true; decide +kernel)
  case f58 => exact (by decide +kernel : (progOf nameList 58).op = 4)
  all_goals (refine eq_of_instEq ?_; show instEq (progOf nameList _) _ = true; decide +kernel)
end

end Go.Proofs.YtooggfopjaaejaaGreatDoor
namespace Go.Proofs.YtooggfopjaaejaaGreatDoor
open Go.RowKit Go.Rx
attribute [local go_sem] Ext.cell Ext.frozen Ext.lt Ext.lt_add Ext.cell2 Ext.frozen2

/-- A run's cells; v the value of its runes. -/
def runCells (r : Run) (v : Value) : List Value := [.int .i64 r.n, .int .u8 r.op, .int .i64 r.out, .int .i64 r.dout, .int .i64 r.arg, .int .i64 r.darg, v, .slice none 0 0, .int .i64 0]
/-- An instruction's cells. -/
def instCells (i : Inst) (v : Value) : List Value := [.int .u8 i.op, .int .u32 i.out, .int .u32 i.arg, v]

/-- A run's numbers are in bounds. -/
structure RunOk (r : Run) : Prop where
  n : r.n ≤ 1000
  out : ∀ k, k < r.n → (r.out : Int) + k * r.dout = ((r.inst k).out : Nat) ∧ (r.inst k).out < 100000
  arg : ∀ k, k < r.n → (r.arg : Int) + k * r.darg = ((r.inst k).arg : Nat) ∧ (r.inst k).arg < 100000
  op : r.op < 100
  lim : r.out < 100000 ∧ r.arg < 100000

theorem inst_info : (Tryz.prog.info? 109).map (fun i => (i.zero, i.size, i.bytes)) = some (some (.agg #[.int .u8 0, .int .u32 0, .int .u32 0, .slice none 0 0]), 4, 40) := by kernel_rfl

theorem inst_any (r : Run) (h : RunOk r) (ao : Option Addr) (m c : Nat) (k : Nat) (hk : k < r.n) (w : World) :
    Calls Tryz.prog 56 #[.agg #[.int .i64 r.n, .int .u8 r.op, .int .i64 r.out, .int .i64 r.dout, .int .i64 r.arg, .int .i64 r.darg, .slice ao m c, .slice none 0 0, .int .i64 0], .int .i64 k] w fun e w' => e = .returned (.agg #[.int .u8 (r.inst k).op, .int .u32 (r.inst k).out, .int .u32 (r.inst k).arg, .slice ao m c]) ∧ ∃ x : Ext w, w' = x.now := by
  obtain ⟨o1, o2⟩ := h.out k hk
  obtain ⟨a1, a2⟩ := h.arg k hk
  have hn := h.n
  obtain ⟨o, ho⟩ : ∃ o, (r.inst k).out = o := ⟨_, rfl⟩
  obtain ⟨a, ha⟩ : ∃ a, (r.inst k).arg = a := ⟨_, rfl⟩
  rw [ho] at o1 o2 ⊢
  rw [ha] at a1 a2 ⊢
  have e0 : (r.inst k).op = r.op := rfl
  rw [e0]
  obtain ⟨n, op, out, dout, arg, darg, rune⟩ := r
  dsimp only at *
  have h3 := h.op
  obtain ⟨l1, l2⟩ := h.lim
  dsimp only at h3 l1 l2
  clear h ho ha e0
  go_enter Tryz.func56, Tryz.ntmps56
  go_wp2_with fail
  exact bodyPost_ret (v := .agg #[.int .u8 op, .int .u32 o, .int .u32 a, .slice ao m c]) (by simp [results, Tryz.results56, go_sem]) rfl ⟨rfl, Ext.alloc2 _ _ _⟩

/-- A slice's value. -/
abbrev Sl := Option Addr × Nat × Nat
def slV (s : Sl) : Value := .slice s.1 s.2.1 s.2.2

def rowCells (x : Run × Sl) (k : Nat) : List Value := (List.range k).flatMap fun j => instCells (x.1.inst j) (slV x.2)
def allCells (l : List (Run × Sl)) : List Value := l.flatMap fun x => rowCells x x.1.n
def total (l : List (Run × Sl)) : Nat := (l.map fun x => x.1.n).sum

theorem rowCells_succ (x : Run × Sl) (k : Nat) : rowCells x (k + 1) = rowCells x k ++ instCells (x.1.inst k) (slV x.2) := by
  unfold rowCells
  rw [List.range_succ, List.flatMap_append]
  simp
theorem allCells_take {l : List (Run × Sl)} {i : Nat} {x : Run × Sl} (h : l[i]? = some x) : allCells (l.take (i + 1)) = allCells (l.take i) ++ rowCells x x.1.n := by
  rw [List.take_add_one, h]
  simp [allCells]
theorem total_take {l : List (Run × Sl)} {i : Nat} {x : Run × Sl} (h : l[i]? = some x) : total (l.take (i + 1)) = total (l.take i) + x.1.n := by
  rw [List.take_add_one, h]
  simp [total]
theorem total_le (l : List (Run × Sl)) (h : ∀ x, x ∈ l → RunOk x.1) : total l ≤ l.length * 1000 := by
  induction l with
  | nil => simp [total]
  | cons a l ih =>
    have h1 := (h a (List.mem_cons_self ..)).n
    have h2 := ih (fun x hx => h x (List.mem_cons_of_mem _ hx))
    have e : total (a :: l) = a.1.n + total l := by simp [total]
    rw [e, List.length_cons]
    omega

/-- Runs in memory. -/
def RunsAt (w : World) (B : Nat) (l : List (Run × Sl)) : Prop := ∀ (i : Nat) x, l[i]? = some x → ∀ (j : Nat) u, (runCells x.1 (slV x.2))[j]? = some u → w.cell? ⟨B, i * 9 + j, none⟩ = some u

theorem own_chg_any {w w' : World} {base n : Nat} {e : TypeId} {sz : Nat} {v : Value} {xs : List Value} {X : List Nat} (h : w.ownsRow base e sz v n xs) (x : Chg X w w') (hX : ∀ b, v.ownBlock = some b → b ∉ X) : w'.ownsRow base e sz v n xs := by
  obtain ⟨h1, h2⟩ := h
  refine ⟨h1, ?_⟩
  rcases h2 with h2 | ⟨g, cap, cur, rfl, hb, hh, hr⟩
  · exact .inl h2
  · refine .inr ⟨g, cap, cur, rfl, hb, ?_, hr⟩
    rw [x.block g (Array.getElem?_eq_some_iff.1 hh).1 (hX g rfl)]
    exact hh

/-- An instruction is appended. -/
theorem inst_append (w : World) {ops : Array Oper} {rest : List Oper} {o : Oper} {a : Act} {Q : Exit → Act → World → Prop} (hgd : o.guard = none) (s x : Operand)
    (ho : o.op = .call { callee := .builtin .append, args := #[s, x], argTypes := #[75, 75] }) (base n : Nat) (v : Value) (xs : List Value) (hs : a.eval s = v)
    (hown : w.ownsRow base 109 4 v n xs) (ad : Addr) (c : Nat) (news : List Value) (hx : a.eval x = .slice (some ad) 1 c) (hl : news.length = 4)
    (hnews : ∀ j u, news[j]? = some u → w.cell? (ad.add j) = some u) (h1 : ∀ u ∈ news, u.oneCell' = true) (hn : n < 1000000000) (hbase : base ≤ w.heap.size)
    (h : ∀ g cap w', w'.ownsRow base 109 4 (.slice (some ⟨g, 0, none⟩) (n + 1) cap) (n + 1) (xs ++ news) → w.grownBy w' v.ownBlock → (v.ownBlock = some g ∨ g = w.heap.size) → wpList Tryz.prog ops Q rest (a.put o.dst (.slice (some ⟨g, 0, none⟩) (n + 1) cap)) w') :
    wpList Tryz.prog ops Q (o :: rest) a w := by
  obtain ⟨i, hi, hz0, hz1, hz2⟩ := info_parts inst_info
  exact wpList_append_lies w hgd s x 75 ho base 109 i _ 4 40 (by kernel_rfl) hi hz0 hz1 hz2 rfl (by omega) v n xs hs hown ad 1 c news hx (by simpa using hl) hnews h1 (by omega) (by simp [maxLen]; omega) (by omega) hbase _ rfl (fun g cap w' a1 a2 a3 _ => h g cap w' a1 a2 a3)

/-- What is there behind some instructions. -/
def Wrote (w : World) (l : List (Run × Sl)) (i : Nat) (v : Value) (wr : World) : Prop :=
  wr.ownsRow w.heap.size 109 4 v (total (l.take i)) (allCells (l.take i)) ∧ ∃ x : Ext w, wr = x.now
def WroteIn (w : World) (l : List (Run × Sl)) (i : Nat) (x : Run × Sl) (k : Nat) (v : Value) (wr : World) : Prop :=
  wr.ownsRow w.heap.size 109 4 v (total (l.take i) + k) (allCells (l.take i) ++ rowCells x k) ∧ ∃ x : Ext w, wr = x.now

theorem Ext.grown {w wr w' : World} {v : Value} {n : Nat} {xs : List Value} {t : TypeId} {sz : Nat} (x : Ext w) (hx : wr = x.now) (ho : wr.ownsRow w.heap.size t sz v n xs) (hg : wr.grownBy w' v.ownBlock) : ∃ y : Ext w, w' = y.now := by
  subst hx
  refine Ext.of ⟨hg.os.trans x.below.os, hg.tape.trans x.below.tape, hg.output.trans x.below.output, Nat.le_trans x.below.size hg.size, fun k hk => ?_⟩
  rw [hg.block k (Nat.lt_of_lt_of_le hk x.below.size) (fun e => by have := (ho.lt k e.symm).1; omega)]
  exact x.below.block k hk

set_option maxRecDepth 1000000 in
set_option maxHeartbeats 4000000 in
theorem zz_insts (w : World) (B : Nat) (l : List (Run × Sl)) (c : Nat) (hB : RunsAt w B l) (hBl : B < w.heap.size) (hok : ∀ x, x ∈ l → RunOk x.1) (hl : l.length ≤ 1000) :
    Calls Tryz.prog 38 #[.slice (some ⟨B, 0, none⟩) l.length c] w fun e w' => ∃ v, e = .returned v ∧ Wrote w l l.length v w' := by
  have HB := Lib.hid hB
  have HK := Lib.hid hok
  have HT := Lib.hid (total_le (l.take l.length) (fun x hx => hok x (List.mem_of_mem_take hx)))
  clear hB hok
  go_enter Tryz.func38, Tryz.ntmps38
  go_wp2_with fail
  go_loopw [3, 9] (fun v t wr => ∃ i : Nat, i ≤ l.length ∧ t = .int .i64 i ∧ Wrote w l i v wr) (fun _ t _ => l.length - (intOf t).toNat)
  case atStart => exact ⟨0, Nat.zero_le _, rfl, by simpa [total, allCells] using World.ownsRow_nil w w.heap.size 109 4, Ext.refl w, rfl⟩
  case round =>
    obtain ⟨i, hi, rfl, hown, x, rfl⟩ := hrel
    by_cases hlt : i < l.length
    · have hlt' : (i : Int) < (l.length : Int) := by omega
      obtain ⟨y, hy⟩ : ∃ y, l[i]? = some y := ⟨_, List.getElem?_eq_getElem hlt⟩
      have hyo := HK.out y (List.mem_of_getElem? hy)
      have hyn := hyo.n
      have hRA := HB.out i y hy
      have cc : ∀ j u, (runCells y.1 (slV y.2))[j]? = some u → x.now.cell? ⟨B, i * 9 + j, none⟩ = some u := fun j u h => by rw [x.cell B (i * 9 + j) hBl]; exact hRA j u h
      have hT0 : total (l.take i) ≤ 1000000 := by
        have := total_le (l.take i) (fun x hx => HK.out x (List.mem_of_mem_take hx))
        rw [List.length_take] at this
        have : min i l.length ≤ 1000 := by omega
        omega
      obtain ⟨r, ao, m, cv⟩ := y
      obtain ⟨n, op, out, dout, arg, darg, rune⟩ := r
      have c0 := cc 0 _ rfl
      have c1 := cc 1 _ rfl
      have c2 := cc 2 _ rfl
      have c3 := cc 3 _ rfl
      have c4 := cc 4 _ rfl
      have c5 := cc 5 _ rfl
      have c6 := cc 6 _ rfl
      have c7 := cc 7 _ rfl
      have c8 := cc 8 _ rfl
      simp only [Nat.add_zero, slV] at c0 c1 c2 c3 c4 c5 c6 c7 c8
      dsimp only at hyn
      have HY := Lib.hid hyo
      have HYI := Lib.hid hy
      have HOWN := Lib.hid hown
      have hBx := x.lt B hBl
      clear hyo hy hRA cc hown
      go_wp2_with fail
      obtain ⟨w1, hw1⟩ : ∃ w1, w1 = x.now.alloc (Obj.cells #[.int .i64 n, .int .u8 op, .int .i64 out, .int .i64 dout, .int .i64 arg, .int .i64 darg, .slice ao m cv, .slice none 0 0, .int .i64 0] 80) := ⟨_, rfl⟩
      obtain ⟨BV, hBV⟩ : ∃ BV, x.now.heap.size = BV := ⟨_, rfl⟩
      rw [← hw1, hBV]
      have bBV : Blk w1 BV [.int .i64 n, .int .u8 op, .int .i64 out, .int .i64 dout, .int .i64 arg, .int .i64 darg, .slice ao m cv, .slice none 0 0, .int .i64 0] 80 := by rw [hw1, ← hBV]; exact Blk.new _ _ _
      have own1 : w1.ownsRow w.heap.size 109 4 u3 (total (l.take i)) (allCells (l.take i)) := by rw [hw1]; exact HOWN.out.alloc _
      have hne : u3.ownBlock ≠ some BV := fun e => by have := (HOWN.out.lt BV e).2; omega
      have hx1 : ∃ y : Ext w, w1 = y.now := by rw [hw1]; exact Ext.both x (Ext.one x.now _)
      have W1 := Lib.hid bBV
      have W2 := Lib.hid own1
      have W3 := Lib.hid hx1
      clear hw1 bBV own1 hx1 c0 c1 c2 c3 c4 c5 c6 c7 c8
      go_loopw [3, 6] (fun v t wr => ∃ k : Nat, k ≤ n ∧ t = .int .i64 k ∧ WroteIn w l i (⟨n, op, out, dout, arg, darg, rune⟩, ao, m, cv) k v wr ∧ Blk wr BV [.int .i64 n, .int .u8 op, .int .i64 out, .int .i64 dout, .int .i64 arg, .int .i64 darg, .slice ao m cv, .slice none 0 0, .int .i64 0] 80 ∧ v.ownBlock ≠ some BV) (fun _ t _ => n - (intOf t).toNat)
      case atStart => exact ⟨0, Nat.zero_le _, rfl, ⟨by simpa [rowCells] using W2.out, W3.out⟩, W1.out, hne⟩
      case round =>
        obtain ⟨k, hk, rfl, ⟨hwo, y, rfl⟩, hbv, hnb⟩ := hrel
        have d0 : y.now.cell? ⟨BV, 0, none⟩ = some (.int .i64 n) := (hbv.cell 0).trans rfl
        have d1 : y.now.cell? ⟨BV, 1, none⟩ = some (.int .u8 op) := (hbv.cell 1).trans rfl
        have d2 : y.now.cell? ⟨BV, 2, none⟩ = some (.int .i64 out) := (hbv.cell 2).trans rfl
        have d3 : y.now.cell? ⟨BV, 3, none⟩ = some (.int .i64 dout) := (hbv.cell 3).trans rfl
        have d4 : y.now.cell? ⟨BV, 4, none⟩ = some (.int .i64 arg) := (hbv.cell 4).trans rfl
        have d5 : y.now.cell? ⟨BV, 5, none⟩ = some (.int .i64 darg) := (hbv.cell 5).trans rfl
        have d6 : y.now.cell? ⟨BV, 6, none⟩ = some (.slice ao m cv) := (hbv.cell 6).trans rfl
        have d7 : y.now.cell? ⟨BV, 7, none⟩ = some (.slice none 0 0) := (hbv.cell 7).trans rfl
        have d8 : y.now.cell? ⟨BV, 8, none⟩ = some (.int .i64 0) := (hbv.cell 8).trans rfl
        have hBVl := hbv.lt
        have V1 := Lib.hid hwo
        have V2 := Lib.hid hbv
        have V3 := Lib.hid hnb
        clear hwo hbv hnb
        by_cases hkn : k < n
        · have hkn' : (k : Int) < (n : Int) := by omega
          have hinst := inst_any ⟨n, op, out, dout, arg, darg, rune⟩ HY.out ao m cv k hkn y.now
          dsimp only at hinst
          have HI := Lib.hid hinst
          clear hinst
          go_wp2_with (first | (go_at_call 56; (with_reducible refine HI.out.mono ?_); rintro e w2 ⟨rfl, z, rfl⟩) | (at_builtin; refine inst_append _ rfl _ _ rfl w.heap.size (total (l.take i) + k) u3 (allCells (l.take i) ++ rowCells (⟨n, op, out, dout, arg, darg, rune⟩, ao, m, cv) k) rfl ((own_chg_any V1.out (Chg.of_below z.below) (fun b _ => by simp)).alloc _) ⟨z.now.heap.size, 0, none⟩ 1 (instCells (Run.inst ⟨n, op, out, dout, arg, darg, rune⟩ k) (.slice ao m cv)) rfl rfl (by intro j u hu; match j, hu with | 0, hu => simpa [instCells, Addr.add] using hu | 1, hu => simpa [instCells, Addr.add] using hu | 2, hu => simpa [instCells, Addr.add] using hu | 3, hu => simpa [instCells, Addr.add] using hu | j + 4, hu => simp [instCells] at hu) (by intro u hu; simp [instCells] at hu; rcases hu with rfl | rfl | rfl | rfl <;> rfl) (by omega) (by simp; have := z.le; have := y.le; omega) ?_))
          intro g cap w3 hown3 hgr3 hat3
          have H1 := Lib.hid hown3
          have H2 := Lib.hid hgr3
          have H3 := Lib.hid hat3
          clear hown3 hgr3 hat3
          go_wp2_with fail
          have hz := z.le
          have ho0 : (z.now.alloc (Obj.cells (instCells (Run.inst ⟨n, op, out, dout, arg, darg, rune⟩ k) (.slice ao m cv)).toArray 109)).ownsRow w.heap.size 109 4 u3 (total (l.take i) + k) (allCells (l.take i) ++ rowCells (⟨n, op, out, dout, arg, darg, rune⟩, ao, m, cv) k) := (own_chg_any V1.out (Chg.of_below z.below) (fun b _ => by simp)).alloc _
          refine ⟨⟨k + 1, by omega, by simp, ⟨?_, ?_⟩, ?_, ?_⟩, by simp [intOf]; omega⟩
          · rw [rowCells_succ]
            exact H1.out
          · obtain ⟨yz, hyz⟩ := Ext.both y (z.trans (Ext.one z.now (Obj.cells (instCells (Run.inst ⟨n, op, out, dout, arg, darg, rune⟩ k) (.slice ao m cv)).toArray 109)))
            exact Ext.grown yz hyz ho0 H2.out
          · refine Eq.trans ?_ ((V2.out.chg (Chg.of_below z.below) (by simp)).alloc (Obj.cells (instCells (Run.inst ⟨n, op, out, dout, arg, darg, rune⟩ k) (.slice ao m cv)).toArray 109))
            refine H2.out.block BV (by simp; omega) ?_
            exact fun e => V3.out e.symm
          · intro e
            simp [Value.ownBlock] at e
            rcases H3.out with h | h
            · exact V3.out (by rw [h, e])
            · omega
        · have hke : k = n := by omega
          subst hke
          have hkn' : ¬ (k : Int) < (k : Int) := by omega
          go_wp2_with fail
          refine ⟨⟨i + 1, by omega, by simp, ?_, y, rfl⟩, by simp [intOf]; omega⟩
          rw [allCells_take HYI.out, total_take HYI.out]
          exact V1.out
    · have hil : i = l.length := by omega
      subst hil
      have hlt' : ¬ (l.length : Int) < (l.length : Int) := by omega
      have HOWN := Lib.hid hown
      clear hown
      go_wp2_with fail
      go_ret
      exact ⟨_, rfl, HOWN.out, x, rfl⟩

end Go.Proofs.YtooggfopjaaejaaGreatDoor
namespace Go.Proofs.YtooggfopjaaejaaGreatDoor
open Go.RowKit Go.Rx

/-- What is known of a frame: the values of its slots, the newest first; what is not named is undefined. -/
def look : List (Nat × Value) → Nat → Value
  | [], _ => undef
  | (k, v) :: r, t => if k = t then v else look r t

def evalK (K : List (Nat × Value)) : Operand → Value
  | .tmp t => look K t
  | o => (⟨#[], []⟩ : Act).eval o

/-- A frame is as known. -/
structure Agree (n : Nat) (a : Act) (K : List (Nat × Value)) : Prop where
  size : a.tmps.size = n
  defers : a.defers = []
  at_ : ∀ t, a.tmps.getD t undef = look K t

theorem Agree.eval {n : Nat} {a : Act} {K : List (Nat × Value)} (h : Agree n a K) : a.eval = evalK K := by
  funext o
  cases o with
  | tmp t => exact h.at_ t
  | _ => rfl

theorem Agree.put {n : Nat} {a : Act} {K : List (Nat × Value)} (h : Agree n a K) (d : Nat) (hd : d < n) (v : Value) : Agree n (a.put (some d) v) ((d, v) :: K) := by
  have hs := h.size
  refine ⟨?_, h.defers, fun t => ?_⟩
  · simp [Act.put, hs]
  · have h1 := h.at_ t
    simp only [look]
    by_cases e : d = t
    · subst e
      rw [if_pos rfl]
      simp [Act.put, hs, hd]
    · rw [if_neg e, ← h1]
      simp [Act.put, e, Array.getD_eq_getD_getElem?]

theorem Agree.none {n : Nat} {a : Act} {K : List (Nat × Value)} (h : Agree n a K) (v : Value) : Agree n (a.put none v) K := h

/-- Operations that yield a value or none, one behind the other. -/
def runK (P : Program) (n : Nat) : List Oper → List (Nat × Value) → World → Option (List (Nat × Value) × World)
  | [], K, w => some (K, w)
  | o :: r, K, w =>
    match o.guard with
    | some _ => none
    | none =>
      match (execOp (evalK K) o).run P w with
      | .ok (.value v) w' =>
        match o.dst with
        | some d => if d < n then runK P n r ((d, v) :: K) w' else none
        | none => runK P n r K w'
      | .ok .skip w' =>
        match o.dst with
        | some _ => none
        | none => runK P n r K w'
      | _ => none

section
variable {P : Program} {ops : Array Oper} {Q : Exit → Act → World → Prop}

theorem wpList_run {n : Nat} {rest : List Oper} : ∀ (l : List Oper) (K : List (Nat × Value)) (w : World) (K' : List (Nat × Value)) (w' : World), runK P n l K w = some (K', w') →
    (∀ a', Agree n a' K' → wpList P ops Q rest a' w') → ∀ a, Agree n a K → wpList P ops Q (l ++ rest) a w
  | [], K, w, K', w', h, g, a, ha => by
    simp only [runK, Option.some.injEq, Prod.mk.injEq] at h
    obtain ⟨rfl, rfl⟩ := h
    exact g a ha
  | o :: r, K, w, K', w', h, g, a, ha => by
    unfold runK at h
    cases hg : o.guard with
    | some x => rw [hg] at h; cases h
    | none =>
      rw [hg] at h
      dsimp only at h
      refine wpList_plain hg fun F hF => ?_
      unfold Oper.wp
      rw [ha.eval]
      cases hr : (execOp (evalK K) o).run P w with
      | ok x w1 =>
        rw [hr] at h
        cases x with
        | value v =>
          dsimp only at h
          refine hF _ _ ?_
          cases hd : o.dst with
          | some d =>
            rw [hd] at h
            dsimp only at h
            split at h
            · rename_i hlt
              exact wpList_run r _ _ K' w' h g _ (ha.put d hlt v)
            · cases h
          | none =>
            rw [hd] at h
            exact wpList_run r _ _ K' w' h g _ (ha.none v)
        | skip =>
          dsimp only at h
          refine hF _ _ ?_
          cases hd : o.dst with
          | some d => rw [hd] at h; cases h
          | none =>
            rw [hd] at h
            exact wpList_run r _ _ K' w' h g _ (ha.none undef)
        | defer d => cases h
        | enter f args => cases h
        | row x args => cases h
        | _ => cases h
      | halt e w1 => rw [hr] at h; cases h

def headRegion : Code → Option (Array Oper × Code)
  | .seq (.region _ ops false) d => some (ops, d)
  | _ => none

theorem headRegion_is {c d : Code} {o : Array Oper} (h : headRegion c = some (o, d)) : ∃ id, c = .seq (.region id o false) d := by
  unfold headRegion at h
  split at h
  · simp only [Option.some.injEq, Prod.mk.injEq] at h
    obtain ⟨rfl, rfl⟩ := h
    exact ⟨_, rfl⟩
  · cases h

/-- Regions, one behind the other. -/
def runTo (P : Program) (n : Nat) : Nat → Code → List (Nat × Value) → World → Option (Code × List (Nat × Value) × World)
  | 0, c, a, w => some (c, a, w)
  | k + 1, c, a, w =>
    match headRegion c with
    | none => none
    | some (ops, d) =>
      match runK P n ops.toList a w with
      | some (a', w') => runTo P n k d a' w'
      | none => none

theorem wp_runTo {n : Nat} : ∀ (k : Nat) (c : Code) (K : List (Nat × Value)) (w : World) (c' : Code) (K' : List (Nat × Value)) (w' : World), runTo P n k c K w = some (c', K', w') →
    (∀ a', Agree n a' K' → c'.wp P Q a' w') → ∀ a, Agree n a K → c.wp P Q a w
  | 0, c, K, w, c', K', w', h, g, a, ha => by
    simp only [runTo, Option.some.injEq, Prod.mk.injEq] at h
    obtain ⟨rfl, rfl, rfl⟩ := h
    exact g a ha
  | k + 1, c, K, w, c', K', w', h, g, a, ha => by
    unfold runTo at h
    cases hc : headRegion c with
    | none => rw [hc] at h; cases h
    | some x =>
      obtain ⟨o, d⟩ := x
      rw [hc] at h
      dsimp only at h
      obtain ⟨id, rfl⟩ := headRegion_is hc
      cases h1 : runK P n o.toList K w with
      | none => rw [h1] at h; cases h
      | some y =>
        obtain ⟨K1, w1⟩ := y
        rw [h1] at h
        dsimp only at h
        refine wp_seq_k fun F hF => wp_region_list ?_
        have := wpList_run (P := P) (ops := o) (Q := Exit.then F Q) (rest := []) o.toList K w K1 w1 h1 (fun a1 h2 => hF a1 w1 (wp_runTo k d K1 w1 c' K' w' h g a1 h2)) a ha
        rw [List.append_nil] at this
        exact this

/-- Some regions, and the first operations of the next. -/
theorem wp_part {n k m id : Nat} {c d : Code} {ops' : Array Oper} {K K1 K2 : List (Nat × Value)} {w w1 w2 : World} (h1 : runTo P n k c K w = some (.seq (.region id ops' false) d, K1, w1)) (h2 : runK P n (ops'.toList.take m) K1 w1 = some (K2, w2))
    (h : ∀ F : Act → World → Prop, (∀ a w, d.wp P Q a w → F a w) → ∀ a2, Agree n a2 K2 → wpList P ops' (Exit.then F Q) (ops'.toList.drop m) a2 w2) {a : Act} (ha : Agree n a K) : c.wp P Q a w := by
  refine wp_runTo k c K w _ _ _ h1 (fun a1 hb => ?_) a ha
  refine wp_seq_k fun F hF => wp_region_list ?_
  have := wpList_run (P := P) (ops := ops') (Q := Exit.then F Q) (rest := ops'.toList.drop m) (ops'.toList.take m) K1 w1 K2 w2 h2 (h F hF) a1 hb
  rw [List.take_append_drop] at this
  exact this
end

/-- A call among the operations. -/
theorem wpList_enter {P : Program} {ops : Array Oper} {Q : Exit → Act → World → Prop} {n : Nat} {a : Act} {K : List (Nat × Value)} {o : Oper} {rest : List Oper} {w w1 : World} {f : FuncId} {args : Array Value} {G : Value → World → Prop} (hg : o.guard = none) (ha : Agree n a K)
    (hr : (execOp (evalK K) o).run P w = .ok (.enter f args) w1) (hc : Calls P f args w1 fun e w' => ∃ v, e = .returned v ∧ G v w')
    (h : ∀ v w', G v w' → wpList P ops Q rest (a.put o.dst v) w') : wpList P ops Q (o :: rest) a w := by
  refine wpList_plain hg fun F hF => ?_
  unfold Oper.wp
  rw [ha.eval, hr]
  show Calls P f args w1 _
  refine hc.mono ?_
  rintro e w' ⟨v, rfl, hv⟩
  exact hF _ _ (h v w' hv)

theorem agree_start (n : Nat) : Agree n ⟨#[] ++ Array.replicate (n - (#[] : Array Value).size) undef, []⟩ [] := by
  refine ⟨by simp, rfl, fun t => ?_⟩
  simp only [look]
  simp [Array.getD_eq_getD_getElem?, Array.getElem?_replicate]
  split <;> rfl

/-- New blocks, one behind the other. -/
def allocs (w : World) (l : List Obj) : World := l.foldl World.alloc w
theorem allocs_size (l : List Obj) : ∀ w : World, (allocs w l).heap.size = w.heap.size + l.length := by
  induction l with
  | nil => intro w; rfl
  | cons o l ih =>
    intro w
    have h := ih (w.alloc o)
    show (allocs (w.alloc o) l).heap.size = _
    rw [h]
    simp
    omega
theorem allocs_chg (l : List Obj) : ∀ w : World, Chg [] w (allocs w l) := by
  induction l with
  | nil => intro w; exact Chg.refl w
  | cons o l ih => intro w; exact ((Chg.alloc w o).trans (ih (w.alloc o))).mono (fun b hb _ => by cases hb)
theorem allocs_blk (l : List Obj) : ∀ (w : World) (j : Nat) (cs : List Value) (t : TypeId), l[j]? = some (.cells cs.toArray t) → Blk (allocs w l) (w.heap.size + j) cs t := by
  induction l with
  | nil => intro w j cs t h; simp at h
  | cons o l ih =>
    intro w j cs t h
    cases j with
    | zero =>
      simp at h
      subst h
      exact (Blk.new w cs t).chg (allocs_chg l _) (by simp)
    | succ j =>
      have := ih (w.alloc o) j cs t (by simpa using h)
      have e : (w.alloc o).heap.size + j = w.heap.size + (j + 1) := by simp; omega
      rw [e] at this
      exact this

end Go.Proofs.YtooggfopjaaejaaGreatDoor
