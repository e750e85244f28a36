/-
FnRefNormalSelf: the regular expressions, the digest and the reference, part 14 of 26.
-/
import Derived.Test.YtkbmigfkclnlaaaGreatDoorV12
import Derived.Test.YtkbmigfkclnlaaaGreatDoorV13
set_option linter.all false
namespace Go.Proofs.YtkbmigfkclnlaaaGreatDoor
open Go.RowKit Go.Rx

def AL.cb (L : AL) (b : Nat) : AL := { L with CB := b }
def AL.pl (L : AL) (pb : Option (Nat × Nat)) : AL := { L with pb := pb }

def aBlks (q : List CE) : List Nat := q.flatMap fun e => match e.2 with
 | none => []
 | some t => [t.1.1, t.1.2]

def AL.tot (L : AL) (n : List CE) (pool : List Th) (rem : List CE) (fr : List Th) (X : List Nat) : List Nat :=
 [L.M, L.S, L.D, L.F, L.MC] ++ pbBlk L.pb ++ aBlks n ++ pBlks pool ++ aBlks rem ++ pBlks fr ++ X

def FreeTh (L : AL) (w : World) (t : Th) : Prop := (∃ v, Blk w t.1 [v, .slice (some ⟨t.2, 0, none⟩) L.nc L.nc] 212) ∧ ∃ l, Blk w t.2 l 3 ∧ l.length = L.nc

structure NSt (L : AL) (mcap : List Int) (n : List CE) (pool : List Th) (rem : List CE) (fr : List Th) (X : List Nat) (w : World) : Prop where
 st : AddSt (L.cb L.MC) mcap n pool none w
 noMC : ∀ pc t, (pc, some t) ∈ n → t.1.2 ≠ L.MC
 rthr : ∀ pc t, (pc, some t) ∈ rem → Blk w t.1.1 [.pointer (some ⟨L.I, pc * 4, none⟩), .slice (some ⟨t.1.2, 0, none⟩) L.nc L.nc] 212 ∧ Blk w t.1.2 (intCells t.2) 3 ∧ t.2.length = L.nc
 fthr : ∀ t, t ∈ fr → FreeTh L w t
 apart : (L.tot n pool rem fr X).Nodup
 ge : ∀ b, b ∈ L.tot n pool rem fr X → L.N ≤ b ∧ b < w.heap.size

theorem aBlks_cons_some (pc : Nat) (t : Th × List Int) (q : List CE) : aBlks ((pc, some t) :: q) = [t.1.1, t.1.2] ++ aBlks q := by simp [aBlks]
theorem aBlks_cons_none (pc : Nat) (q : List CE) : aBlks ((pc, none) :: q) = aBlks q := by simp [aBlks]
theorem mem_aBlks {q : List CE} {pc : Nat} {t : Th × List Int} (h : (pc, some t) ∈ q) : t.1.1 ∈ aBlks q ∧ t.1.2 ∈ aBlks q := by
 unfold aBlks
 exact ⟨List.mem_flatMap.2 ⟨_, h, by simp⟩, List.mem_flatMap.2 ⟨_, h, by simp⟩⟩

theorem qBlks_all {b : Nat} {q : List CE} (h : ∀ pc t, (pc, some t) ∈ q → t.1.2 ≠ b) : qBlks b q = aBlks q := by
 induction q with
 | nil => rfl
 | cons e q ih =>
  have ih' := ih (fun pc t ht => h pc t (List.mem_cons_of_mem _ ht))
  obtain ⟨pc, o⟩ := e
  cases o with
  | none =>
   rw [aBlks_cons_none, ← ih']
   simp [qBlks, oBlks]
  | some t =>
   have hn := h pc t (List.mem_cons_self ..)
   rw [aBlks_cons_some, ← ih']
   simp [qBlks, oBlks, hn]

theorem count_aBlks {b T : Nat} {q : List CE} (h : ∀ pc t, (pc, some t) ∈ q → t.1.2 = b → t.1.1 = T) (a : Nat) : List.count a (aBlks q) ≤ List.count a (qBlks b q) + (if a = b then List.count T (qBlks b q) else 0) := by
 induction q with
 | nil => simp [aBlks]
 | cons e q ih =>
  have ih' := ih (fun pc t ht => h pc t (List.mem_cons_of_mem _ ht))
  obtain ⟨pc, o⟩ := e
  cases o with
  | none =>
   have e1 : qBlks b ((pc, none) :: q) = qBlks b q := by simp [qBlks, oBlks]
   rw [aBlks_cons_none, e1]
   exact ih'
  | some t =>
   by_cases hn : t.1.2 = b
   ·have hT := h pc t (List.mem_cons_self ..) hn
    have e1 : qBlks b ((pc, some t) :: q) = [t.1.1] ++ qBlks b q := by simp [qBlks, oBlks, hn]
    rw [aBlks_cons_some, e1, List.count_append, List.count_append, List.count_append, hn, hT]
    have e2 : List.count T [T] = 1 := by simp
    rw [e2]
    by_cases hab : a = b
    ·subst hab
     simp only [if_true] at ih' ⊢
     have : List.count a [T, a] ≤ List.count a [T] + 1 := by
      rw [show ([T, a] : List Nat) = [T] ++ [a] from rfl, List.count_append]
      simp
     omega
    ·rw [if_neg hab] at ih' ⊢
     have : List.count a [T, b] = List.count a [T] := by
      rw [show ([T, b] : List Nat) = [T] ++ [b] from rfl, List.count_append]
      have : List.count a [b] = 0 := List.count_eq_zero.2 (by simp; exact hab)
      omega
     omega
   ·have e1 : qBlks b ((pc, some t) :: q) = [t.1.1, t.1.2] ++ qBlks b q := by simp [qBlks, oBlks, hn]
    rw [aBlks_cons_some, e1, List.count_append, List.count_append]
    split at ih'
    ·rename_i hab
     rw [if_pos hab, List.count_append]
     omega
    ·rename_i hab
     rw [if_neg hab]
     omega

theorem AddSt.recb {L : AL} {c : List Int} {q : List CE} {pool : List Th} {hand : Option Nat} {w : World} (h : AddSt L c q pool none w) (b : Nat) (c' : List Int) (hb : Blk w b (intCells c') 3) (hlen : c'.length = L.nc)
  (hcb : ∀ pc t, (pc, some t) ∈ q → t.1.2 = L.CB → t.2 = c) (hh : ∀ T, hand = some T → ∃ v, Blk w T [v, .slice (some ⟨b, 0, none⟩) L.nc L.nc] 212)
  (hap : ((L.cb b).blks q pool hand).Nodup) (hge : ∀ x, x ∈ (L.cb b).blks q pool hand → L.N ≤ x ∧ x < w.heap.size) : AddSt (L.cb b) c' q pool hand w where
 prog := h.prog
 mblk := h.mblk
 dense := h.dense
 sparse := h.sparse
 pcs := h.pcs
 thr := fun pc t ht => by
  obtain ⟨a1, a2, a3⟩ := h.thr pc t ht
  refine ⟨a1, fun _ => ?_, a3⟩
  by_cases hc : t.1.2 = L.CB
  ·rw [hc, hcb pc t ht hc]; exact h.cap
  ·exact a2 hc
 pthr := h.pthr
 prow := h.prow
 pcap := h.pcap
 hthr := hh
 cap := hb
 clen := hlen
 flag := h.flag
 apart := hap
 ge := hge

theorem nodup_of_count {l r : List Nat} (hr : r.Nodup) (h : ∀ a, List.count a l ≤ List.count a r) : l.Nodup := by
 rw [List.nodup_iff_count] at hr ⊢
 intro a
 exact Nat.le_trans (h a) (hr a)

theorem mem_of_count {l r : List Nat} (h : ∀ a, List.count a l ≤ List.count a r) : ∀ b, b ∈ l → b ∈ r := by
 intro b hb
 have h1 := List.count_pos_iff.2 hb
 exact List.count_pos_iff.1 (Nat.lt_of_lt_of_le h1 (h b))

section
variable {L : AL} {mcap : List Int} {n rem : List CE} {pool fr : List Th} {X : List Nat} {w : World} {pc : Nat} {t : Th × List Int}

theorem NSt.toAdd (h : NSt L mcap n pool ((pc, some t) :: rem) fr X w) : AddSt (L.cb t.1.2) t.2 n pool (some t.1.1) w ∧
  (∀ b, b ∈ (L.cb t.1.2).blks n pool (some t.1.1) → b ∈ L.tot n pool ((pc, some t) :: rem) fr X) ∧
  (∀ b, b = L.MC ∨ b ∈ aBlks rem ∨ b ∈ pBlks fr ∨ b ∈ X → b ∉ (L.cb t.1.2).blks n pool (some t.1.1)) ∧ ∀ pc' t', (pc', some t') ∈ n → t'.1.2 ≠ t.1.2 := by
 obtain ⟨r1, r2, r3⟩ := h.rthr pc t (List.mem_cons_self ..)
 have hap := h.apart
 have hnC : ∀ pc' t', (pc', some t') ∈ n → t'.1.2 ≠ t.1.2 := by
  intro pc' t' ht' e
  have h1 := (mem_aBlks ht').2
  rw [List.nodup_iff_count] at hap
  have h2 := hap t.1.2
  have h3 : 1 ≤ List.count t.1.2 (aBlks n) := List.count_pos_iff.2 (by rw [← e]; exact h1)
  simp only [AL.tot, aBlks_cons_some, List.count_append] at h2
  have h4 : 1 ≤ List.count t.1.2 [t.1.1, t.1.2] := List.count_pos_iff.2 (by simp)
  omega
 have hq : qBlks t.1.2 n = aBlks n := qBlks_all hnC
 have hcount : ∀ a, List.count a ((L.cb t.1.2).blks n pool (some t.1.1)) + List.count a [L.MC] + List.count a (aBlks rem) + List.count a (pBlks fr) + List.count a X = List.count a (L.tot n pool ((pc, some t) :: rem) fr X) := by
  intro a
  have e1 : (L.cb t.1.2).blks n pool (some t.1.1) = [L.M, L.S, L.D, L.F] ++ [t.1.2] ++ pbBlk L.pb ++ aBlks n ++ pBlks pool ++ [t.1.1] := by
   simp only [AL.blks, AL.cb, hq, hBlks]
   rfl
  have e2 : L.tot n pool ((pc, some t) :: rem) fr X = [L.M, L.S, L.D, L.F] ++ [L.MC] ++ pbBlk L.pb ++ aBlks n ++ pBlks pool ++ ([t.1.1] ++ [t.1.2] ++ aBlks rem) ++ pBlks fr ++ X := by
   rw [AL.tot, aBlks_cons_some]
   rfl
  rw [e1, e2]
  simp only [List.count_append]
  omega
 have hle : ∀ a, List.count a ((L.cb t.1.2).blks n pool (some t.1.1)) ≤ List.count a (L.tot n pool ((pc, some t) :: rem) fr X) := fun a => by have := hcount a; omega
 have hmem := mem_of_count hle
 refine ⟨h.st.recb t.1.2 t.2 r2 r3 (fun pc' t' ht' e => absurd e (h.noMC pc' t' ht')) (fun T hT => by cases hT; exact ⟨_, r1⟩) (nodup_of_count hap hle) (fun x hx => h.ge x (hmem x hx)), hmem, ?_, hnC⟩
 intro b hb hm
 have h1 : 1 ≤ List.count b ((L.cb t.1.2).blks n pool (some t.1.1)) := List.count_pos_iff.2 hm
 have h2 := (List.nodup_iff_count.1 hap) b
 have h3 := hcount b
 rcases hb with hb | hb | hb | hb
 ·subst hb
  have : List.count L.MC [L.MC] = 1 := by simp
  omega
 ·have : 1 ≤ List.count b (aBlks rem) := List.count_pos_iff.2 hb
  omega
 ·have : 1 ≤ List.count b (pBlks fr) := List.count_pos_iff.2 hb
  omega
 ·have : 1 ≤ List.count b X := List.count_pos_iff.2 hb
  omega

end
end Go.Proofs.YtkbmigfkclnlaaaGreatDoor
namespace Go.Proofs.YtkbmigfkclnlaaaGreatDoor
open Go.RowKit Go.Rx

section
variable {L : AL} {mcap : List Int} {n n2 rem : List CE} {pool pool2 fr : List Th} {X : List Nat} {w w1 : World} {pc : Nat} {t : Th × List Int} {hand2 : Option Nat}

theorem NSt.away {Y : List Nat} (h : NSt L mcap n pool rem fr X w) (x : Chg Y w w1) (hY : ∀ b, b ∈ L.tot n pool rem fr X → b ∉ Y) (hN : ∀ b, b ∈ Y → L.N ≤ b) : NSt L mcap n pool rem fr X w1 := by
 have hq : qBlks L.MC n = aBlks n := qBlks_all h.noMC
 have hsub : ∀ b, b ∈ (L.cb L.MC).blks n pool none → b ∈ L.tot n pool rem fr X := by
  refine mem_of_count (fun a => ?_)
  have e1 : (L.cb L.MC).blks n pool none = [L.M, L.S, L.D, L.F, L.MC] ++ pbBlk L.pb ++ aBlks n ++ pBlks pool := by
   simp only [AL.blks, AL.cb, hq, hBlks, List.append_nil]
  rw [e1, AL.tot]
  simp only [List.count_append]
  omega
 refine ⟨h.st.away x (fun b hb => hY b (hsub b hb)) hN, h.noMC, fun pc t ht => ?_, fun t ht => ?_, h.apart, fun b hb => ⟨(h.ge b hb).1, Nat.lt_of_lt_of_le (h.ge b hb).2 x.size⟩⟩
 ·obtain ⟨r1, r2, r3⟩ := h.rthr pc t ht
  obtain ⟨m1, m2⟩ := mem_aBlks ht
  exact ⟨r1.chg x (hY _ (by simp [AL.tot, m1])), r2.chg x (hY _ (by simp [AL.tot, m2])), r3⟩
 ·obtain ⟨⟨v, r1⟩, l, r2, r3⟩ := h.fthr t ht
  have m1 : t.1 ∈ pBlks fr ∧ t.2 ∈ pBlks fr := by
   unfold pBlks
   exact ⟨List.mem_flatMap.2 ⟨_, ht, by simp⟩, List.mem_flatMap.2 ⟨_, ht, by simp⟩⟩
  exact ⟨⟨v, r1.chg x (hY _ (by simp [AL.tot, m1.1]))⟩, l, r2.chg x (hY _ (by simp [AL.tot, m1.2])), r3⟩

def left : Option Nat → Th → List Th
 | none, _ => []
 | some _, t => [t]

theorem NSt.fromAdd (h : NSt L mcap n pool ((pc, some t) :: rem) fr X w) (st2 : AddSt (L.cb t.1.2) t.2 n2 pool2 hand2 w1) (nw : New (L.cb t.1.2) t.2 n (some t.1.1) n2 hand2) (mv : Moved (L.cb t.1.2) n pool (some t.1.1) w n2 pool2 hand2 w1) :
  NSt L mcap n2 pool2 rem (left hand2 t.1 ++ fr) X w1 := by
 obtain ⟨st, hmem, hout, hnC⟩ := h.toAdd
 obtain ⟨⟨new, hnew, hcl⟩, hhand⟩ := nw
 have hap := h.apart
 have hsz := mv.chg.size
 -- the blocks outside the call
 have hO : ∀ b, b = L.MC ∨ b ∈ aBlks rem ∨ b ∈ pBlks fr ∨ b ∈ X → b ∈ L.tot n pool ((pc, some t) :: rem) fr X := by
  intro b hb
  rw [AL.tot, aBlks_cons_some]
  simp only [List.mem_append, List.mem_cons]
  rcases hb with hb | hb | hb | hb <;> simp [hb]
 have hout2 : ∀ b, b = L.MC ∨ b ∈ aBlks rem ∨ b ∈ pBlks fr ∨ b ∈ X → b ∉ (L.cb t.1.2).blks n2 pool2 hand2 := by
  intro b hb hm
  rcases mv.blk b hm with h1 | h1
  ·exact hout b hb h1
  ·have := (h.ge b (hO b hb)).2; omega
 have hA := st2.apart
 have hCA : t.1.2 ∈ (L.cb t.1.2).blks n2 pool2 hand2 := AL.mem_blks.2 (.inr (.inr (.inr (.inr (.inl rfl)))))
 have hone : ∀ pc' t', (pc', some t') ∈ n2 → t'.1.2 = t.1.2 → t'.1.1 = t.1.1 ∧ hand2 = none ∧ t'.2 = t.2 := by
  intro pc' t' ht' e
  rw [hnew] at ht'
  rcases List.mem_append.1 ht' with ht' | ht'
  ·exact absurd e (hnC pc' t' ht')
  ·obtain ⟨a1, a2, a3⟩ := hcl _ ht' t' rfl e
   simp at a1
   exact ⟨a1.symm, a2, a3⟩
 have hcount : ∀ a, List.count a (L.tot n2 pool2 rem (left hand2 t.1 ++ fr) X) ≤ 1 := by
  intro a
  have hA1 := (List.nodup_iff_count.1 hA) a
  have hT1 := (List.nodup_iff_count.1 hap) a
  have eA : (L.cb t.1.2).blks n2 pool2 hand2 = [L.M, L.S, L.D, L.F] ++ [t.1.2] ++ pbBlk L.pb ++ qBlks t.1.2 n2 ++ pBlks pool2 ++ hBlks hand2 := rfl
  have eT : L.tot n2 pool2 rem (left hand2 t.1 ++ fr) X = [L.M, L.S, L.D, L.F] ++ [L.MC] ++ pbBlk L.pb ++ aBlks n2 ++ pBlks pool2 ++ aBlks rem ++ (pBlks (left hand2 t.1) ++ pBlks fr) ++ X := by
   rw [AL.tot]
   have : pBlks (left hand2 t.1 ++ fr) = pBlks (left hand2 t.1) ++ pBlks fr := by simp [pBlks]
   rw [this]
   rfl
  have eP : L.tot n pool ((pc, some t) :: rem) fr X = [L.M, L.S, L.D, L.F] ++ [L.MC] ++ pbBlk L.pb ++ aBlks n ++ pBlks pool ++ ([t.1.1, t.1.2] ++ aBlks rem) ++ pBlks fr ++ X := by
   rw [AL.tot, aBlks_cons_some]; rfl
  have hOA : 1 ≤ List.count a [L.MC] + List.count a (aBlks rem) + List.count a (pBlks fr) + List.count a X → List.count a ((L.cb t.1.2).blks n2 pool2 hand2) = 0 := by
   intro h1
   refine List.count_eq_zero.2 (hout2 a ?_)
   rcases Nat.eq_zero_or_pos (List.count a [L.MC]) with z1 | z1
   ·rcases Nat.eq_zero_or_pos (List.count a (aBlks rem)) with z2 | z2
    ·rcases Nat.eq_zero_or_pos (List.count a (pBlks fr)) with z3 | z3
     ·exact .inr (.inr (.inr (List.count_pos_iff.1 (by omega))))
     ·exact .inr (.inr (.inl (List.count_pos_iff.1 z3)))
    ·exact .inr (.inl (List.count_pos_iff.1 z2))
   ·have := List.count_pos_iff.1 z1
    exact .inl (by simpa using this)
  rw [eP] at hT1
  rw [eA] at hA1 hOA
  rw [eT]
  simp only [List.count_append] at hA1 hT1 hOA ⊢
  cases hand2 with
  | none =>
   have hc := count_aBlks (b := t.1.2) (T := t.1.1) (fun pc' t' ht' e => (hone pc' t' ht' e).1) a
   have hTA := (List.nodup_iff_count.1 hA) t.1.1
   rw [eA] at hTA
   simp only [List.count_append] at hTA
   have e5 : pBlks (left none t.1) = [] := rfl
   rw [e5]
   simp only [List.count_nil, hBlks] at hA1 hOA hTA ⊢
   by_cases hab : a = t.1.2
   ·rw [if_pos hab] at hc
    have : List.count a [t.1.2] = 1 := by rw [hab]; simp
    omega
   ·rw [if_neg hab] at hc
    omega
  | some T2 =>
   have hq : qBlks t.1.2 n2 = aBlks n2 := qBlks_all (fun pc' t' ht' e => by have := (hone pc' t' ht' e).2.1; cases this)
   have hT2 : T2 = t.1.1 := by
    rcases hhand with hh | hh
    ·simpa using hh
    ·cases hh
   subst hT2
   rw [hq] at hA1 hOA
   have e5 : pBlks (left (some t.1.1) t.1) = [t.1.1] ++ [t.1.2] := by simp [left, pBlks]
   rw [e5]
   simp only [hBlks, List.count_append] at hA1 hOA ⊢
   omega
 have hap2 : (L.tot n2 pool2 rem (left hand2 t.1 ++ fr) X).Nodup := List.nodup_iff_count.2 hcount
 have hin : ∀ b, b ∈ L.tot n2 pool2 rem (left hand2 t.1 ++ fr) X → b ∈ (L.cb t.1.2).blks n2 pool2 hand2 ∨ (b = L.MC ∨ b ∈ aBlks rem ∨ b ∈ pBlks fr ∨ b ∈ X) := by
  intro b hb
  have h1 : 1 ≤ List.count b (L.tot n2 pool2 rem (left hand2 t.1 ++ fr) X) := List.count_pos_iff.2 hb
  have eT : L.tot n2 pool2 rem (left hand2 t.1 ++ fr) X = [L.M, L.S, L.D, L.F] ++ [L.MC] ++ pbBlk L.pb ++ aBlks n2 ++ pBlks pool2 ++ aBlks rem ++ (pBlks (left hand2 t.1) ++ pBlks fr) ++ X := by
   rw [AL.tot]
   have : pBlks (left hand2 t.1 ++ fr) = pBlks (left hand2 t.1) ++ pBlks fr := by simp [pBlks]
   rw [this]
   rfl
  have eA : (L.cb t.1.2).blks n2 pool2 hand2 = [L.M, L.S, L.D, L.F] ++ [t.1.2] ++ pbBlk L.pb ++ qBlks t.1.2 n2 ++ pBlks pool2 ++ hBlks hand2 := rfl
  have hc := count_aBlks (b := t.1.2) (T := t.1.1) (fun pc' t' ht' e => (hone pc' t' ht' e).1) b
  by_cases hbA : b ∈ (L.cb t.1.2).blks n2 pool2 hand2
  ·exact .inl hbA
  ·right
   have h0 : List.count b ((L.cb t.1.2).blks n2 pool2 hand2) = 0 := List.count_eq_zero.2 hbA
   have hbC : b ≠ t.1.2 := fun e => hbA (by rw [e]; exact hCA)
   rw [if_neg hbC] at hc
   rw [eT] at h1
   rw [eA] at h0
   simp only [List.count_append] at h0 h1
   have hl : List.count b (pBlks (left hand2 t.1)) = 0 := by
    cases hand2 with
    | none => simp [left, pBlks]
    | some T2 =>
     have hT2 : T2 = t.1.1 := by
      rcases hhand with hh | hh
      ·simpa using hh
      ·cases hh
     subst hT2
     have e5 : pBlks (left (some t.1.1) t.1) = [t.1.1] ++ [t.1.2] := by simp [left, pBlks]
     rw [e5, List.count_append]
     simp only [hBlks] at h0
     omega
   rcases Nat.eq_zero_or_pos (List.count b [L.MC]) with z1 | z1
   ·rcases Nat.eq_zero_or_pos (List.count b (aBlks rem)) with z2 | z2
    ·rcases Nat.eq_zero_or_pos (List.count b (pBlks fr)) with z3 | z3
     ·exact .inr (.inr (.inr (List.count_pos_iff.1 (by omega))))
     ·exact .inr (.inr (.inl (List.count_pos_iff.1 z3)))
    ·exact .inr (.inl (List.count_pos_iff.1 z2))
   ·have := List.count_pos_iff.1 z1
    exact .inl (by simpa using this)
 have hge2 : ∀ b, b ∈ L.tot n2 pool2 rem (left hand2 t.1 ++ fr) X → L.N ≤ b ∧ b < w1.heap.size := by
  intro b hb
  rcases hin b hb with h1 | h1
  ·exact st2.ge b h1
  ·have := h.ge b (hO b h1)
   exact ⟨this.1, Nat.lt_of_lt_of_le this.2 hsz⟩
 have hMCne : L.MC ≠ t.1.2 := fun e => hout2 L.MC (.inl rfl) (by rw [e]; exact hCA)
 have hnoMC : ∀ pc' t', (pc', some t') ∈ n2 → t'.1.2 ≠ L.MC := by
  intro pc' t' ht' e
  by_cases hc : t'.1.2 = t.1.2
  ·exact hMCne (e.symm.trans hc)
  ·have := (mem_qBlks (CB := t.1.2) ht').2 hc
   rw [e] at this
   exact hout2 L.MC (.inl rfl) (AL.mem_blks.2 (.inr (.inr (.inr (.inr (.inr (AL.mem_rest.2 (.inr (.inl this)))))))))
 have st2d : AddSt (L.cb t.1.2) t.2 n2 pool2 none w1 := by
  cases hh : hand2 with
  | none => rw [hh] at st2; exact st2
  | some T2 => rw [hh] at st2; exact st2.drop.1
 have bMC : Blk w1 L.MC (intCells mcap) 3 := h.st.cap.chg mv.chg (hout L.MC (.inl rfl))
 have hqMC : qBlks L.MC n2 = aBlks n2 := qBlks_all hnoMC
 have hsubT : ∀ a, List.count a ((L.cb L.MC).blks n2 pool2 none) ≤ List.count a (L.tot n2 pool2 rem (left hand2 t.1 ++ fr) X) := by
  intro a
  have e1 : (L.cb L.MC).blks n2 pool2 none = [L.M, L.S, L.D, L.F, L.MC] ++ pbBlk L.pb ++ aBlks n2 ++ pBlks pool2 := by
   simp only [AL.blks, AL.cb, hqMC, hBlks, List.append_nil]
  rw [e1, AL.tot]
  simp only [List.count_append]
  omega
 have stM : AddSt ((L.cb t.1.2).cb L.MC) mcap n2 pool2 none w1 :=
  st2d.recb L.MC mcap bMC h.st.clen (fun pc' t' ht' e => (hone pc' t' ht' e).2.2) (fun T hT => by cases hT)
   (nodup_of_count hap2 hsubT) (fun x hx => hge2 x (mem_of_count hsubT x hx))
 refine ⟨stM, hnoMC, ?_, ?_, hap2, hge2⟩
 ·intro pc' t' ht'
  obtain ⟨r1, r2, r3⟩ := h.rthr pc' t' (List.mem_cons_of_mem _ ht')
  obtain ⟨m1, m2⟩ := mem_aBlks ht'
  exact ⟨r1.chg mv.chg (hout _ (.inr (.inl m1))), r2.chg mv.chg (hout _ (.inr (.inl m2))), r3⟩
 ·intro t' ht'
  rcases List.mem_append.1 ht' with ht' | ht'
  ·cases hh : hand2 with
   | none => rw [hh] at ht'; cases ht'
   | some T2 =>
    rw [hh] at ht'
    simp [left] at ht'
    subst ht'
    have hT2 : T2 = t.1.1 := by
     rcases hhand with hh' | hh'
     ·rw [hh] at hh'; simpa using hh'
     ·rw [hh] at hh'; cases hh'
    subst hT2
    obtain ⟨v, hv⟩ := st2.hthr _ hh
    exact ⟨⟨v, hv⟩, _, st2.cap, by unfold intCells; rw [List.length_map]; exact st2.clen⟩
  ·obtain ⟨⟨v, r1⟩, l, r2, r3⟩ := h.fthr t' ht'
   have m1 : t'.1 ∈ pBlks fr ∧ t'.2 ∈ pBlks fr := by
    unfold pBlks
    exact ⟨List.mem_flatMap.2 ⟨_, ht', by simp⟩, List.mem_flatMap.2 ⟨_, ht', by simp⟩⟩
   exact ⟨⟨v, r1.chg mv.chg (hout _ (.inr (.inr (.inl m1.1))))⟩, l, r2.chg mv.chg (hout _ (.inr (.inr (.inl m1.2)))), r3⟩

end
end Go.Proofs.YtkbmigfkclnlaaaGreatDoor
namespace Go.Proofs.YtkbmigfkclnlaaaGreatDoor
open Go.RowKit Go.Rx

theorem poolVal_own (pb : Option (Nat × Nat)) (k b : Nat) : (poolVal pb k).ownBlock = some b ↔ b ∈ pbBlk pb := by
 cases pb with
 | none => simp [poolVal, Value.ownBlock, pbBlk]
 | some p =>
  simp [poolVal, Value.ownBlock, pbBlk]
  exact eq_comm

section
variable {L : AL} {mcap : List Int} {n rem : List CE} {pool fr : List Th} {X : List Nat} {w w1 : World} {t : Th} {g cap : Nat}

theorem NSt.push (h : NSt L mcap n pool rem (t :: fr) X w) (y : Ext w) (hgr : y.now.grownBy w1 (poolVal L.pb pool.length).ownBlock)
  (hown : w1.ownsRow L.N 209 1 (.slice (some ⟨g, 0, none⟩) (pool.length + 1) cap) (pool.length + 1) ((pool.map fun t => .pointer (some ⟨t.1, 0, none⟩)) ++ [.pointer (some ⟨t.1, 0, none⟩)]))
  (hgg : (poolVal L.pb pool.length).ownBlock = some g ∨ w.heap.size ≤ g) (hgl : g < w1.heap.size) (hk : pool.length + 1 < 9000000000000) :
  NSt (L.pl (some (g, cap))) mcap n (pool ++ [t]) rem fr X (w1.setCell ⟨L.M, 6, none⟩ (.slice (some ⟨g, 0, none⟩) (pool.length + 1) cap)) := by
 have hap := h.apart
 have x1 : Chg (pbBlk L.pb) w w1 := by
  have x2 : Chg (pbBlk L.pb) y.now w1 := ⟨hgr.os, hgr.tape, hgr.output, hgr.size, fun b hb hn => hgr.block b hb (fun e => hn ((poolVal_own _ _ _).1 e.symm))⟩
  exact ((Chg.of_below y.below).trans x2).mono (fun b hb _ => by simpa using hb)
 have x : Chg (pbBlk L.pb ++ [L.M]) w (w1.setCell ⟨L.M, 6, none⟩ (.slice (some ⟨g, 0, none⟩) (pool.length + 1) cap)) := x1.trans (Chg.set w1 L.M 6 _)
 have eT : ∀ a, List.count a (L.tot n pool rem (t :: fr) X) = List.count a [L.M] + List.count a (pbBlk L.pb) + (List.count a [L.S, L.D, L.F, L.MC] + List.count a (aBlks n) + List.count a (pBlks pool) + List.count a (aBlks rem) + (List.count a [t.1, t.2] + List.count a (pBlks fr)) + List.count a X) := by
  intro a
  have e1 : L.tot n pool rem (t :: fr) X = [L.M] ++ [L.S, L.D, L.F, L.MC] ++ pbBlk L.pb ++ aBlks n ++ pBlks pool ++ aBlks rem ++ ([t.1, t.2] ++ pBlks fr) ++ X := by
   rw [AL.tot]
   have : pBlks (t :: fr) = [t.1, t.2] ++ pBlks fr := by simp [pBlks]
   rw [this]
   rfl
  rw [e1]
  simp only [List.count_append]
  omega
 have hoth : ∀ b, 1 ≤ List.count b [L.S, L.D, L.F, L.MC] + List.count b (aBlks n) + List.count b (pBlks pool) + List.count b (aBlks rem) + (List.count b [t.1, t.2] + List.count b (pBlks fr)) + List.count b X → b ∉ pbBlk L.pb ++ [L.M] := by
  intro b hb hm
  have h1 := (List.nodup_iff_count.1 hap) b
  rw [eT] at h1
  rcases List.mem_append.1 hm with hm | hm
  ·have : 1 ≤ List.count b (pbBlk L.pb) := List.count_pos_iff.2 hm
   omega
  ·have : 1 ≤ List.count b [L.M] := List.count_pos_iff.2 hm
   omega
 have hmt : ∀ b, 1 ≤ List.count b (L.tot n pool rem (t :: fr) X) → L.N ≤ b ∧ b < w.heap.size := fun b hb => h.ge b (List.count_pos_iff.1 hb)
 have hMN := hmt L.M (by rw [eT]; simp; omega)
 have hpN : ∀ b, b ∈ pbBlk L.pb → L.N ≤ b ∧ b < w.heap.size := fun b hb => hmt b (by
  have : 1 ≤ List.count b (pbBlk L.pb) := List.count_pos_iff.2 hb
  rw [eT]; omega)
 have hMp : L.M ∉ pbBlk L.pb := by
  intro hm
  have h1 := (List.nodup_iff_count.1 hap) L.M
  rw [eT] at h1
  have h2 : 1 ≤ List.count L.M (pbBlk L.pb) := List.count_pos_iff.2 hm
  have h3 : 1 ≤ List.count L.M [L.M] := by simp
  omega
 have hgM : g ≠ L.M := by
  rcases hgg with e | e
  ·intro hh; subst hh; exact hMp ((poolVal_own _ _ _).1 e)
  ·omega
 have hxs := x.size
 have c1 : ∀ (b : Nat) (l : List Nat), b ∈ l → 1 ≤ List.count b l := fun b l hb => List.count_pos_iff.2 hb
 obtain ⟨rest, d1, d2⟩ := h.st.dense
 obtain ⟨sp, s1, s2, s3⟩ := h.st.sparse
 have oS : L.S ∉ pbBlk L.pb ++ [L.M] := hoth _ (by have := c1 L.S [L.S, L.D, L.F, L.MC] (by simp); omega)
 have oD : L.D ∉ pbBlk L.pb ++ [L.M] := hoth _ (by have := c1 L.D [L.S, L.D, L.F, L.MC] (by simp); omega)
 have oF : L.F ∉ pbBlk L.pb ++ [L.M] := hoth _ (by have := c1 L.F [L.S, L.D, L.F, L.MC] (by simp); omega)
 have oC : L.MC ∉ pbBlk L.pb ++ [L.M] := hoth _ (by have := c1 L.MC [L.S, L.D, L.F, L.MC] (by simp); omega)
 have oN : ∀ b, b ∈ aBlks n → b ∉ pbBlk L.pb ++ [L.M] := fun b hb => hoth _ (by have := c1 b _ hb; omega)
 have oP : ∀ b, b ∈ pBlks pool → b ∉ pbBlk L.pb ++ [L.M] := fun b hb => hoth _ (by have := c1 b _ hb; omega)
 have oR : ∀ b, b ∈ aBlks rem → b ∉ pbBlk L.pb ++ [L.M] := fun b hb => hoth _ (by have := c1 b _ hb; omega)
 have oT : ∀ b, b ∈ [t.1, t.2] → b ∉ pbBlk L.pb ++ [L.M] := fun b hb => hoth _ (by have := c1 b _ hb; omega)
 have oR2 : ∀ b, b ∈ pBlks fr → b ∉ pbBlk L.pb ++ [L.M] := fun b hb => hoth _ (by have := c1 b _ hb; omega)
 have hFl := (hmt L.F (by rw [eT]; have := c1 L.F [L.S, L.D, L.F, L.MC] (by simp); omega)).2
 have eT2 : ∀ a, List.count a ((L.pl (some (g, cap))).tot n (pool ++ [t]) rem fr X) = List.count a [L.M] + List.count a [g] + (List.count a [L.S, L.D, L.F, L.MC] + List.count a (aBlks n) + List.count a (pBlks pool) + List.count a (aBlks rem) + (List.count a [t.1, t.2] + List.count a (pBlks fr)) + List.count a X) := by
  intro a
  have e1 : (L.pl (some (g, cap))).tot n (pool ++ [t]) rem fr X = [L.M] ++ [L.S, L.D, L.F, L.MC] ++ [g] ++ aBlks n ++ (pBlks pool ++ [t.1, t.2]) ++ aBlks rem ++ pBlks fr ++ X := by
   rw [AL.tot]
   have : pBlks (pool ++ [t]) = pBlks pool ++ [t.1, t.2] := by simp [pBlks]
   rw [this]
   rfl
  rw [e1]
  simp only [List.count_append]
  omega
 have hg1 : ∀ a, List.count a ((L.pl (some (g, cap))).tot n (pool ++ [t]) rem fr X) ≤ 1 := by
  intro a
  have h1 := (List.nodup_iff_count.1 hap) a
  rw [eT] at h1
  rw [eT2]
  by_cases hag : a = g
  ·subst hag
   have h3 : List.count a [a] = 1 := by simp
   rcases hgg with e | e
   ·have := c1 a _ ((poolVal_own _ _ _).1 e)
    omega
   ·have h0 : List.count a (L.tot n pool rem (t :: fr) X) = 0 := List.count_eq_zero.2 (fun hm => by have := (h.ge a hm).2; omega)
    rw [eT] at h0
    omega
  ·have h3 : List.count a [g] = 0 := List.count_eq_zero.2 (by simp; exact hag)
   omega
 have hap2 : ((L.pl (some (g, cap))).tot n (pool ++ [t]) rem fr X).Nodup := List.nodup_iff_count.2 hg1
 have hge2 : ∀ b, b ∈ (L.pl (some (g, cap))).tot n (pool ++ [t]) rem fr X → L.N ≤ b ∧ b < (w1.setCell ⟨L.M, 6, none⟩ (.slice (some ⟨g, 0, none⟩) (pool.length + 1) cap)).heap.size := by
  intro b hb
  have h1 := c1 b _ hb
  rw [eT2] at h1
  by_cases hbg : b = g
  ·subst hbg
   refine ⟨?_, by simpa [World.setCell] using hgl⟩
   rcases hgg with e | e
   ·exact (hpN b ((poolVal_own _ _ _).1 e)).1
   ·have := h.st.prog.le
    exact Nat.le_trans this e
  ·have h3 : List.count b [g] = 0 := List.count_eq_zero.2 (by simp; exact hbg)
   have := hmt b (by rw [eT]; omega)
   exact ⟨this.1, Nat.lt_of_lt_of_le this.2 hxs⟩
 have hqMC : qBlks L.MC n = aBlks n := qBlks_all h.noMC
 have hsubT : ∀ a, List.count a (((L.pl (some (g, cap))).cb L.MC).blks n (pool ++ [t]) none) ≤ List.count a ((L.pl (some (g, cap))).tot n (pool ++ [t]) rem fr X) := by
  intro a
  have e1 : ((L.pl (some (g, cap))).cb L.MC).blks n (pool ++ [t]) none = [L.M, L.S, L.D, L.F, L.MC] ++ [g] ++ aBlks n ++ pBlks (pool ++ [t]) := by
   simp only [AL.blks, AL.cb, AL.pl, hqMC, hBlks, List.append_nil]
   rfl
  have e2 : (L.pl (some (g, cap))).tot n (pool ++ [t]) rem fr X = [L.M, L.S, L.D, L.F, L.MC] ++ [g] ++ aBlks n ++ pBlks (pool ++ [t]) ++ aBlks rem ++ pBlks fr ++ X := rfl
  rw [e1, e2]
  simp only [List.count_append]
  omega
 refine ⟨?_, h.noMC, ?_, ?_, hap2, hge2⟩
 ·exact
  { prog := h.st.prog.chg x (fun b hb => by
    rcases List.mem_append.1 hb with hb | hb
    ·exact (hpN b hb).1
    ·simp at hb; rw [hb]; exact hMN.1)
    mblk := by
      have := (h.st.mblk.chg x1 hMp).set 6 (.slice (some ⟨g, 0, none⟩) (pool.length + 1) cap)
      have e : ((L.cb L.MC).mCells n.length pool.length).set 6 (.slice (some ⟨g, 0, none⟩) (pool.length + 1) cap) = ((L.pl (some (g, cap))).cb L.MC).mCells n.length (pool ++ [t]).length := by
        unfold AL.mCells
        rw [List.set_set]
        simp [AL.cb, AL.pl, poolVal]
      rw [e] at this
      exact this
    dense := ⟨rest, d1.chg x oD, d2⟩
    sparse := ⟨sp, s1.chg x oS, s2, s3⟩
    pcs := h.st.pcs
    thr := fun pc' t' ht' => by
      obtain ⟨a1, a2, a3⟩ := h.st.thr pc' t' ht'
      obtain ⟨m1, m2⟩ := mem_aBlks ht'
      exact ⟨a1.chg x (oN _ m1), fun hn => (a2 hn).chg x (oN _ m2), a3⟩
    pthr := fun i t' ht' => by
      rcases Nat.lt_or_ge i pool.length with hi | hi
      · rw [List.getElem?_append_left hi] at ht'
        obtain ⟨⟨v, a1⟩, l, a2, a3⟩ := h.st.pthr i t' ht'
        obtain ⟨m1, m2⟩ := mem_pBlks ht'
        exact ⟨⟨v, a1.chg x (oP _ m1)⟩, l, a2.chg x (oP _ m2), a3⟩
      · rw [List.getElem?_append_right hi] at ht'
        have hi0 : i - pool.length = 0 := by
          cases hh : i - pool.length with
          | zero => rfl
          | succ k => rw [hh] at ht'; simp at ht'
        rw [hi0] at ht'
        simp at ht'
        subst ht'
        obtain ⟨⟨v, a1⟩, l, a2, a3⟩ := h.fthr t (List.mem_cons_self ..)
        exact ⟨⟨v, a1.chg x (oT _ (by simp))⟩, l, a2.chg x (oT _ (by simp)), a3⟩
    prow := by
      have := own_chg hown (Chg.set w1 L.M 6 (.slice (some ⟨g, 0, none⟩) (pool.length + 1) cap)) (fun b hb => by simp [Value.ownBlock] at hb; subst hb; simpa using hgM)
      rw [List.map_append, List.length_append]
      exact this
    pcap := by simpa using hk
    hthr := fun T hT => by cases hT
    cap := h.st.cap.chg x oC
    clen := h.st.clen
    flag := h.st.flag.chg x oF
    apart := nodup_of_count hap2 hsubT
    ge := fun b hb => hge2 b (mem_of_count hsubT b hb) }
 ·intro pc' t' ht'
  obtain ⟨r1, r2, r3⟩ := h.rthr pc' t' ht'
  obtain ⟨m1, m2⟩ := mem_aBlks ht'
  exact ⟨r1.chg x (oR _ m1), r2.chg x (oR _ m2), r3⟩
 ·intro t' ht'
  obtain ⟨⟨v, r1⟩, l, r2, r3⟩ := h.fthr t' (List.mem_cons_of_mem _ ht')
  have m1 : t'.1 ∈ pBlks fr ∧ t'.2 ∈ pBlks fr := by
   unfold pBlks
   exact ⟨List.mem_flatMap.2 ⟨_, ht', by simp⟩, List.mem_flatMap.2 ⟨_, ht', by simp⟩⟩
  exact ⟨⟨v, r1.chg x (oR2 _ m1.1)⟩, l, r2.chg x (oR2 _ m1.2), r3⟩

end
end Go.Proofs.YtkbmigfkclnlaaaGreatDoor
namespace Go.Proofs.YtkbmigfkclnlaaaGreatDoor
open Go.RowKit Go.Rx

def AL.mlo (L : AL) (ml : List Value) : AL := { L with ml := ml }

def ths (q : List CE) : List Th := q.filterMap fun e => e.2.map (·.1)

theorem pBlks_append (a b : List Th) : pBlks (a ++ b) = pBlks a ++ pBlks b := by simp [pBlks]
theorem pBlks_ths (q : List CE) : pBlks (ths q) = aBlks q := by
 induction q with
 | nil => rfl
 | cons e q ih =>
  obtain ⟨pc, o⟩ := e
  cases o with
  | none => rw [aBlks_cons_none, ← ih]; simp [ths]
  | some t => rw [aBlks_cons_some, ← ih]; simp [ths, pBlks]
theorem ths_ptrs (q : List CE) : thPtrs q = (ths q).map fun t => .pointer (some ⟨t.1, 0, none⟩) := by
 induction q with
 | nil => rfl
 | cons e q ih =>
  obtain ⟨pc, o⟩ := e
  cases o with
  | none => simpa [thPtrs, ths] using ih
  | some t => simp [thPtrs, ths] at ih ⊢; exact ih
theorem mem_ths {q : List CE} {t : Th} (h : t ∈ ths q) : ∃ pc c, (pc, some (t, c)) ∈ q := by
 unfold ths at h
 obtain ⟨e, he, h2⟩ := List.mem_filterMap.1 h
 obtain ⟨pc, o⟩ := e
 cases o with
 | none => simp at h2
 | some t' =>
  simp at h2
  subst h2
  exact ⟨pc, t'.2, he⟩

section
variable {L : AL} {mcap mcap' : List Int} {n rem : List CE} {pool ts fr : List Th} {X : List Nat} {w w' : World} {g cap : Nat} {ml' : List Value}

theorem NSt.free (h : NSt L mcap n pool rem fr X w) : NSt L mcap n pool [] (ths rem ++ fr) X w := by
 have e : ∀ a, List.count a (L.tot n pool [] (ths rem ++ fr) X) = List.count a (L.tot n pool rem fr X) := by
  intro a
  simp only [AL.tot, pBlks_append, pBlks_ths, List.count_append, aBlks, List.flatMap_nil, List.count_nil]
  omega
 refine ⟨h.st, h.noMC, fun pc t ht => (by cases ht), fun t ht => ?_, nodup_of_count h.apart (fun a => by rw [e]; exact Nat.le_refl _), fun b hb => h.ge b (mem_of_count (fun a => by rw [e]; exact Nat.le_refl _) b hb)⟩
 rcases List.mem_append.1 ht with ht | ht
 ·obtain ⟨pc, c, hm⟩ := mem_ths ht
  obtain ⟨r1, r2, r3⟩ := h.rthr pc (t, c) hm
  exact ⟨⟨_, r1⟩, _, r2, by unfold intCells; rw [List.length_map]; exact r3⟩
 ·exact h.fthr t ht

theorem NSt.pour (h : NSt L mcap n pool rem (ts ++ fr) X w) {Z : List Nat} (x : Chg Z w w') (hZ : ∀ b, b ∈ Z → b = L.M ∨ b = L.MC ∨ b ∈ pbBlk L.pb ∨ b ∈ pBlks ts)
  (hM : Blk w' L.M ((((L.pl (some (g, cap))).mlo ml').cb L.MC).mCells n.length (pool ++ ts).length) L.tM) (hMC : Blk w' L.MC (intCells mcap') 3) (hlen : mcap'.length = L.nc) (hfree : ∀ t, t ∈ ts → FreeTh L w' t)
  (hown : w'.ownsRow L.N 209 1 (.slice (some ⟨g, 0, none⟩) (pool ++ ts).length cap) (pool ++ ts).length ((pool ++ ts).map fun t => .pointer (some ⟨t.1, 0, none⟩)))
  (hgg : g ∈ pbBlk L.pb ∨ w.heap.size ≤ g) (hgl : g < w'.heap.size) (hk : (pool ++ ts).length < 9000000000000) :
  NSt ((L.pl (some (g, cap))).mlo ml') mcap' n (pool ++ ts) rem fr X w' := by
 have hap := h.apart
 have c1 : ∀ (b : Nat) (l : List Nat), b ∈ l → 1 ≤ List.count b l := fun b l hb => List.count_pos_iff.2 hb
 have eT : ∀ a, List.count a (L.tot n pool rem (ts ++ fr) X) = List.count a [L.M] + List.count a (pbBlk L.pb) + List.count a [L.MC] + List.count a (pBlks ts) + (List.count a [L.S, L.D, L.F] + List.count a (aBlks n) + List.count a (pBlks pool) + List.count a (aBlks rem) + List.count a (pBlks fr) + List.count a X) := by
  intro a
  have e1 : L.tot n pool rem (ts ++ fr) X = [L.M] ++ [L.S, L.D, L.F] ++ [L.MC] ++ pbBlk L.pb ++ aBlks n ++ pBlks pool ++ aBlks rem ++ (pBlks ts ++ pBlks fr) ++ X := by
   rw [AL.tot, pBlks_append]
   rfl
  rw [e1]
  simp only [List.count_append]
  omega
 have hoth : ∀ b, 1 ≤ List.count b [L.S, L.D, L.F] + List.count b (aBlks n) + List.count b (pBlks pool) + List.count b (aBlks rem) + List.count b (pBlks fr) + List.count b X → b ∉ Z := by
  intro b hb hm
  have h1 := (List.nodup_iff_count.1 hap) b
  rw [eT] at h1
  rcases hZ b hm with hm | hm | hm | hm
  ·have := c1 b [L.M] (by simp [hm]); omega
  ·have := c1 b [L.MC] (by simp [hm]); omega
  ·have := c1 b _ hm; omega
  ·have := c1 b _ hm; omega
 have hmt : ∀ b, 1 ≤ List.count b (L.tot n pool rem (ts ++ fr) X) → L.N ≤ b ∧ b < w.heap.size := fun b hb => h.ge b (List.count_pos_iff.1 hb)
 have hZN : ∀ b, b ∈ Z → L.N ≤ b := fun b hb => (hmt b (by
  rw [eT]
  rcases hZ b hb with hm | hm | hm | hm
  ·have := c1 b [L.M] (by simp [hm]); omega
  ·have := c1 b [L.MC] (by simp [hm]); omega
  ·have := c1 b _ hm; omega
  ·have := c1 b _ hm; omega)).1
 have hxs := x.size
 obtain ⟨rest, d1, d2⟩ := h.st.dense
 obtain ⟨sp, s1, s2, s3⟩ := h.st.sparse
 have oS : L.S ∉ Z := hoth _ (by have := c1 L.S [L.S, L.D, L.F] (by simp); omega)
 have oD : L.D ∉ Z := hoth _ (by have := c1 L.D [L.S, L.D, L.F] (by simp); omega)
 have oF : L.F ∉ Z := hoth _ (by have := c1 L.F [L.S, L.D, L.F] (by simp); omega)
 have oN : ∀ b, b ∈ aBlks n → b ∉ Z := fun b hb => hoth _ (by have := c1 b _ hb; omega)
 have oP : ∀ b, b ∈ pBlks pool → b ∉ Z := fun b hb => hoth _ (by have := c1 b _ hb; omega)
 have oR : ∀ b, b ∈ aBlks rem → b ∉ Z := fun b hb => hoth _ (by have := c1 b _ hb; omega)
 have oR2 : ∀ b, b ∈ pBlks fr → b ∉ Z := fun b hb => hoth _ (by have := c1 b _ hb; omega)
 have hFl := (hmt L.F (by rw [eT]; have := c1 L.F [L.S, L.D, L.F] (by simp); omega)).2
 have eT2 : ∀ a, List.count a (((L.pl (some (g, cap))).mlo ml').tot n (pool ++ ts) rem fr X) = List.count a [L.M] + List.count a [g] + List.count a [L.MC] + List.count a (pBlks ts) + (List.count a [L.S, L.D, L.F] + List.count a (aBlks n) + List.count a (pBlks pool) + List.count a (aBlks rem) + List.count a (pBlks fr) + List.count a X) := by
  intro a
  have e1 : ((L.pl (some (g, cap))).mlo ml').tot n (pool ++ ts) rem fr X = [L.M] ++ [L.S, L.D, L.F] ++ [L.MC] ++ [g] ++ aBlks n ++ (pBlks pool ++ pBlks ts) ++ aBlks rem ++ pBlks fr ++ X := by
   rw [AL.tot, pBlks_append]
   rfl
  rw [e1]
  simp only [List.count_append]
  omega
 have hg1 : ∀ a, List.count a (((L.pl (some (g, cap))).mlo ml').tot n (pool ++ ts) rem fr X) ≤ 1 := by
  intro a
  have h1 := (List.nodup_iff_count.1 hap) a
  rw [eT] at h1
  rw [eT2]
  by_cases hag : a = g
  ·subst hag
   have h3 : List.count a [a] = 1 := by simp
   rcases hgg with e | e
   ·have := c1 a _ e
    omega
   ·have h0 : List.count a (L.tot n pool rem (ts ++ fr) X) = 0 := List.count_eq_zero.2 (fun hm => by have := (h.ge a hm).2; omega)
    rw [eT] at h0
    omega
  ·have h3 : List.count a [g] = 0 := List.count_eq_zero.2 (by simp; exact hag)
   omega
 have hap2 : (((L.pl (some (g, cap))).mlo ml').tot n (pool ++ ts) rem fr X).Nodup := List.nodup_iff_count.2 hg1
 have hge2 : ∀ b, b ∈ ((L.pl (some (g, cap))).mlo ml').tot n (pool ++ ts) rem fr X → L.N ≤ b ∧ b < w'.heap.size := by
  intro b hb
  have h1 := c1 b _ hb
  rw [eT2] at h1
  by_cases hbg : b = g
  ·subst hbg
   refine ⟨?_, hgl⟩
   rcases hgg with e | e
   ·exact (hmt b (by rw [eT]; have := c1 b _ e; omega)).1
   ·have := h.st.prog.le
    exact Nat.le_trans this e
  ·have h3 : List.count b [g] = 0 := List.count_eq_zero.2 (by simp; exact hbg)
   have := hmt b (by rw [eT]; omega)
   exact ⟨this.1, Nat.lt_of_lt_of_le this.2 hxs⟩
 have hqMC : qBlks L.MC n = aBlks n := qBlks_all h.noMC
 have hsubT : ∀ a, List.count a ((((L.pl (some (g, cap))).mlo ml').cb L.MC).blks n (pool ++ ts) none) ≤ List.count a (((L.pl (some (g, cap))).mlo ml').tot n (pool ++ ts) rem fr X) := by
  intro a
  have e1 : (((L.pl (some (g, cap))).mlo ml').cb L.MC).blks n (pool ++ ts) none = [L.M, L.S, L.D, L.F, L.MC] ++ [g] ++ aBlks n ++ pBlks (pool ++ ts) := by
   simp only [AL.blks, AL.cb, AL.pl, AL.mlo, hqMC, hBlks, List.append_nil]
   rfl
  have e2 : ((L.pl (some (g, cap))).mlo ml').tot n (pool ++ ts) rem fr X = [L.M, L.S, L.D, L.F, L.MC] ++ [g] ++ aBlks n ++ pBlks (pool ++ ts) ++ aBlks rem ++ pBlks fr ++ X := rfl
  rw [e1, e2]
  simp only [List.count_append]
  omega
 refine ⟨?_, h.noMC, ?_, ?_, hap2, hge2⟩
 ·exact
  { prog := h.st.prog.chg x hZN
    mblk := hM
    dense := ⟨rest, d1.chg x oD, d2⟩
    sparse := ⟨sp, s1.chg x oS, s2, s3⟩
    pcs := h.st.pcs
    thr := fun pc' t' ht' => by
      obtain ⟨a1, a2, a3⟩ := h.st.thr pc' t' ht'
      obtain ⟨m1, m2⟩ := mem_aBlks ht'
      exact ⟨a1.chg x (oN _ m1), fun hn => (a2 hn).chg x (oN _ m2), a3⟩
    pthr := fun i t' ht' => by
      rcases Nat.lt_or_ge i pool.length with hi | hi
      · rw [List.getElem?_append_left hi] at ht'
        obtain ⟨⟨v, a1⟩, l, a2, a3⟩ := h.st.pthr i t' ht'
        obtain ⟨m1, m2⟩ := mem_pBlks ht'
        exact ⟨⟨v, a1.chg x (oP _ m1)⟩, l, a2.chg x (oP _ m2), a3⟩
      · rw [List.getElem?_append_right hi] at ht'
        exact hfree t' (List.mem_of_getElem? ht')
    prow := hown
    pcap := hk
    hthr := fun T hT => by cases hT
    cap := hMC
    clen := hlen
    flag := h.st.flag.chg x oF
    apart := nodup_of_count hap2 hsubT
    ge := fun b hb => hge2 b (mem_of_count hsubT b hb) }
 ·intro pc' t' ht'
  obtain ⟨r1, r2, r3⟩ := h.rthr pc' t' ht'
  obtain ⟨m1, m2⟩ := mem_aBlks ht'
  exact ⟨r1.chg x (oR _ m1), r2.chg x (oR _ m2), r3⟩
 ·intro t' ht'
  obtain ⟨⟨v, r1⟩, l, r2, r3⟩ := h.fthr t' (List.mem_append_right _ ht')
  have m1 : t'.1 ∈ pBlks fr ∧ t'.2 ∈ pBlks fr := by
   unfold pBlks
   exact ⟨List.mem_flatMap.2 ⟨_, ht', by simp⟩, List.mem_flatMap.2 ⟨_, ht', by simp⟩⟩
  exact ⟨⟨v, r1.chg x (oR2 _ m1.1)⟩, l, r2.chg x (oR2 _ m1.2), r3⟩

end
end Go.Proofs.YtkbmigfkclnlaaaGreatDoor
namespace Go.Proofs.YtkbmigfkclnlaaaGreatDoor
open Go.RowKit Go.Rx

def mlOf (ml : List Value) (ro Dr nq len : Nat) (b : Bool) : List Value := (ml.set (ro + 1) (.slice (some ⟨Dr, 0, none⟩) len nq)).set 7 (.bool b)

structure SL where
 L : AL
 ro : Nat
 Dr : Nat
 Sr : Nat
 tDr : TypeId
 tSr : TypeId
 X : List Nat
 w0 : World

def SL.at (Y : SL) (pb : Option (Nat × Nat)) (len : Nat) (b : Bool) : AL := (Y.L.pl pb).mlo (mlOf Y.L.ml Y.ro Y.Dr Y.L.nq len b)

structure SOk (Y : SL) : Prop where
 ok : AOk (Y.L.cb Y.L.MC)
 ro : Y.ro = 2 ∨ Y.ro = 4
 ne : Y.ro ≠ Y.L.qo

theorem SL.aok {Y : SL} (h : SOk Y) (pb : Option (Nat × Nat)) (len : Nat) (b : Bool) (c : Nat) : AOk ((Y.at pb len b).cb c) := by
 have hr := h.ro
 have hq := h.ok.qo
 have hn := h.ne
 have hq' : Y.L.qo = 2 ∨ Y.L.qo = 4 := hq
 exact
 { len := by simpa [SL.at, AL.cb, AL.pl, AL.mlo, mlOf] using h.ok.len
   m1 := by
     show (mlOf Y.L.ml Y.ro Y.Dr Y.L.nq len b)[1]? = _
     unfold mlOf
     rw [List.getElem?_set_ne (by omega), List.getElem?_set_ne (by omega)]
     exact h.ok.m1
   mq := by
     show (mlOf Y.L.ml Y.ro Y.Dr Y.L.nq len b)[Y.L.qo]? = _
     unfold mlOf
     rw [List.getElem?_set_ne (by omega), List.getElem?_set_ne (by omega)]
     exact h.ok.mq
   m8 := by
     show (mlOf Y.L.ml Y.ro Y.Dr Y.L.nq len b)[8]? = _
     unfold mlOf
     rw [List.getElem?_set_ne (by omega), List.getElem?_set_ne (by omega)]
     exact h.ok.m8
   qo := h.ok.qo
   np := h.ok.np
   nq := h.ok.nq
   nc := h.ok.nc
   ops := h.ok.ops
   out := h.ok.out
   alt := h.ok.alt
   cap := h.ok.cap
   ew := h.ok.ew }

theorem SL.cells {Y : SL} (h : SOk Y) (pb : Option (Nat × Nat)) (len : Nat) (b : Bool) (n k : Nat) :
  ((Y.at pb len b).mCells n k)[Y.ro + 1]? = some (.slice (some ⟨Y.Dr, 0, none⟩) len Y.L.nq) ∧ ((Y.at pb len b).mCells n k)[7]? = some (.bool b) ∧ ((Y.at pb len b).mCells n k)[6]? = some (poolVal pb k) ∧
  ((Y.at pb len b).mCells n k)[8]? = some (.slice (some ⟨Y.L.MC, 0, none⟩) Y.L.nc Y.L.nc) ∧ ((Y.at pb len b).mCells n k).length = 10 := by
 have hr := h.ro
 have hq : Y.L.qo = 2 ∨ Y.L.qo = 4 := h.ok.qo
 have hn := h.ne
 have hl : Y.L.ml.length = 10 := h.ok.len
 have h8 : Y.L.ml[8]? = some (.slice (some ⟨Y.L.MC, 0, none⟩) Y.L.nc Y.L.nc) := h.ok.m8
 have e : (Y.at pb len b).mCells n k = ((((Y.L.ml.set (Y.ro + 1) (.slice (some ⟨Y.Dr, 0, none⟩) len Y.L.nq)).set 7 (.bool b)).set (Y.L.qo + 1) (.slice (some ⟨Y.L.D, 0, none⟩) n Y.L.nq)).set 6 (poolVal pb k)) := rfl
 rw [e]
 refine ⟨?_, ?_, ?_, ?_, by simpa using hl⟩
 ·rw [List.getElem?_set_ne (by omega), List.getElem?_set_ne (by omega), List.getElem?_set_ne (by omega), List.getElem?_set_self (by omega)]
 ·rw [List.getElem?_set_ne (by omega), List.getElem?_set_ne (by omega), List.getElem?_set_self (by simp; omega)]
 ·rw [List.getElem?_set_self (by simp; omega)]
 ·rw [List.getElem?_set_ne (by omega), List.getElem?_set_ne (by omega), List.getElem?_set_ne (by omega), List.getElem?_set_ne (by omega)]; exact h8

structure RunRows (Y : SL) (q : List CE) (w : World) : Prop where
 d : ∃ dl, Blk w Y.Dr dl Y.tDr ∧ dl.length = Y.L.nq * 2 ∧ ∀ (i : Nat) (e : CE), q[i]? = some e → dl[i * 2]? = some (.int .u32 e.1) ∧ dl[i * 2 + 1]? = some (thPtr e.2)
 s : ∃ sp : List Nat, Blk w Y.Sr (wordCells sp) Y.tSr ∧ sp.length = Y.L.nq

theorem RunRows.chg {Y : SL} {q : List CE} {w w' : World} {Z : List Nat} (h : RunRows Y q w) (x : Chg Z w w') (h1 : Y.Dr ∉ Z) (h2 : Y.Sr ∉ Z) : RunRows Y q w' := by
 obtain ⟨dl, a, b, c⟩ := h.d
 obtain ⟨sp, d, e⟩ := h.s
 exact ⟨⟨dl, a.chg x h1, b, c⟩, sp, d.chg x h2, e⟩

structure StepMem (Y : SL) (mcap : List Int) (m : Option (List Int)) (n : List CE) (pool : List Th) (rem : List CE) (pb : Option (Nat × Nat)) (len : Nat) (q : List CE) (PB : Nat) (w : World) : Prop where
 st : NSt (Y.at pb len m.isSome) mcap n pool rem [] ([Y.Dr, Y.Sr] ++ Y.X) w
 cap : ∀ c, m = some c → mcap = c
 rows : RunRows Y q w
 bound : pool.length + rem.length ≤ PB
 below : Below Y.L.N Y.w0 w

structure SEnv (Y : SL) (E : Env) (p k : Nat) : Prop where
 ae : AEnv (Y.L.cb Y.L.MC) E (p + (E.st p).2)
 top : ∀ pc, E.rank pc < k
 prog : ∀ pc, 0 < pc → pc < Y.L.np → E.prog pc = Y.L.pg pc
 t7 : ∀ pc, 0 < pc → pc < Y.L.np → (Y.L.pg pc).op = 7 → E.takes (E.prog pc) (E.st p).1 = classTakes (Y.L.pg pc).rune (E.st p).1 ∧ ClassLen (Y.L.pg pc).rune.length
 t8 : ∀ pc, 0 < pc → pc < Y.L.np → (Y.L.pg pc).op = 8 → ∃ x, (Y.L.pg pc).rune = [x] ∧ E.takes (E.prog pc) (E.st p).1 = decide (x = (E.st p).1)

theorem AEnv.other {L L' : AL} {E : Env} {p : Nat} (h : AEnv L E p) (h1 : L'.np = L.np) (h2 : L'.pg = L.pg) (h3 : L'.fl = L.fl) : AEnv L' E p :=
 ⟨h.ok, by rw [h1, h2]; exact h.prog, by rw [h3]; exact h.ew4, by rw [h3]; exact h.ew8⟩

section
variable {Y : SL} {E : Env} {p k : Nat} {mcap : List Int} {m : Option (List Int)} {n : List CE} {pool : List Th} {rem q : List CE} {pb : Option (Nat × Nat)} {len PB j : Nat} {w : World}

theorem StepMem.out (h : StepMem Y mcap m n pool rem pb len q PB w) : Y.Dr ∈ (Y.at pb len m.isSome).tot n pool rem [] ([Y.Dr, Y.Sr] ++ Y.X) ∧ Y.Sr ∈ (Y.at pb len m.isSome).tot n pool rem [] ([Y.Dr, Y.Sr] ++ Y.X) := by
 constructor <;> simp [AL.tot]

theorem StepMem.skip {pc : Nat} (h : StepMem Y mcap m n pool ((pc, none) :: rem) pb len q PB w) : StepMem Y mcap m n pool rem pb len q PB w := by
 have e : (Y.at pb len m.isSome).tot n pool ((pc, none) :: rem) [] ([Y.Dr, Y.Sr] ++ Y.X) = (Y.at pb len m.isSome).tot n pool rem [] ([Y.Dr, Y.Sr] ++ Y.X) := by
  unfold AL.tot
  rw [aBlks_cons_none]
 refine ⟨⟨h.st.st, h.st.noMC, fun pc' t' ht' => h.st.rthr pc' t' (List.mem_cons_of_mem _ ht'), h.st.fthr, by rw [← e]; exact h.st.apart, fun b hb => h.st.ge b (by rw [e]; exact hb)⟩, h.cap, h.rows, ?_, h.below⟩
 have := h.bound
 simp at this
 omega

end
end Go.Proofs.YtkbmigfkclnlaaaGreatDoor
namespace Go.Proofs.YtkbmigfkclnlaaaGreatDoor
open Go.RowKit Go.Rx

theorem NSt.sep {L : AL} {mcap : List Int} {n rem : List CE} {pool fr : List Th} {X : List Nat} {w : World} (h : NSt L mcap n pool rem fr X w) {b : Nat} (hb : b ∈ X) :
  b ∉ [L.M, L.S, L.D, L.F, L.MC] ++ pbBlk L.pb ++ aBlks n ++ pBlks pool ++ aBlks rem ++ pBlks fr := by
 have := h.apart
 rw [AL.tot, List.nodup_append] at this
 exact fun hm => this.2.2 b hm b hb rfl

theorem NSt.toFr {L : AL} {mcap : List Int} {n rem : List CE} {pool fr : List Th} {X : List Nat} {w : World} {pc : Nat} {t : Th × List Int} (h : NSt L mcap n pool ((pc, some t) :: rem) fr X w) : NSt L mcap n pool rem (t.1 :: fr) X w := by
 have e : ∀ a, List.count a (L.tot n pool rem (t.1 :: fr) X) = List.count a (L.tot n pool ((pc, some t) :: rem) fr X) := by
  intro a
  have e1 : pBlks (t.1 :: fr) = [t.1.1, t.1.2] ++ pBlks fr := by simp [pBlks]
  simp only [AL.tot, aBlks_cons_some, e1, List.count_append]
  omega
 refine ⟨h.st, h.noMC, fun pc' t' ht' => h.rthr pc' t' (List.mem_cons_of_mem _ ht'), fun t' ht' => ?_, nodup_of_count h.apart (fun a => by rw [e]; exact Nat.le_refl _), fun b hb => h.ge b (mem_of_count (fun a => by rw [e]; exact Nat.le_refl _) b hb)⟩
 rcases List.mem_cons.1 ht' with rfl | ht'
 ·obtain ⟨r1, r2, r3⟩ := h.rthr pc t (List.mem_cons_self ..)
  exact ⟨⟨_, r1⟩, _, r2, by unfold intCells; rw [List.length_map]; exact r3⟩
 ·exact h.fthr t' ht'

section
variable {Y : SL} {E : Env} {p k : Nat} {mcap : List Int} {m : Option (List Int)} {n : List CE} {pool : List Th} {rem q : List CE} {pb : Option (Nat × Nat)} {len PB j : Nat} {w : World}

theorem StepMem.back {fr : Th} (h : NSt (Y.at pb len m.isSome) mcap n pool rem [fr] ([Y.Dr, Y.Sr] ++ Y.X) w) (hc : ∀ c, m = some c → mcap = c) (hr : RunRows Y q w) (hb : pool.length + 1 + rem.length ≤ PB) (hbel : Below Y.L.N Y.w0 w) (hPB : PB < 8900000000000)
  {g cap : Nat} {w1 : World} (hex : ∃ y : Ext w, y.now.grownBy w1 (poolVal pb pool.length).ownBlock)
  (hown : w1.ownsRow Y.L.N 209 1 (.slice (some ⟨g, 0, none⟩) (pool.length + 1) cap) (pool.length + 1) ((pool.map fun t => .pointer (some ⟨t.1, 0, none⟩)) ++ [.pointer (some ⟨fr.1, 0, none⟩)]))
  (hgg : (poolVal pb pool.length).ownBlock = some g ∨ w.heap.size ≤ g) (hgl : g < w1.heap.size) :
  StepMem Y mcap m n (pool ++ [fr]) rem (some (g, cap)) len q PB (w1.setCell ⟨Y.L.M, 6, none⟩ (.slice (some ⟨g, 0, none⟩) (pool.length + 1) cap)) := by
 obtain ⟨y, hgr⟩ := hex
 have hp := NSt.push (L := Y.at pb len m.isSome) h y hgr hown hgg hgl (by omega)
 have x1 : Chg (pbBlk pb) w w1 := by
  have x2 : Chg (pbBlk pb) y.now w1 := ⟨hgr.os, hgr.tape, hgr.output, hgr.size, fun b hb hn => hgr.block b hb (fun e => hn ((poolVal_own _ _ _).1 e.symm))⟩
  exact ((Chg.of_below y.below).trans x2).mono (fun b hb _ => by simpa using hb)
 have x := x1.trans (Chg.set w1 Y.L.M 6 (.slice (some ⟨g, 0, none⟩) (pool.length + 1) cap))
 have out : ∀ b, b ∈ [Y.Dr, Y.Sr] ++ Y.X → b ∉ pbBlk pb ++ [Y.L.M] := by
  intro b hb hm
  refine h.sep hb ?_
  rcases List.mem_append.1 hm with hm | hm
  ·simp only [List.mem_append]
   exact .inl (.inl (.inl (.inl (.inr hm))))
  ·simp at hm
   simp only [List.mem_append]
   refine .inl (.inl (.inl (.inl (.inl ?_))))
   rw [hm]
   exact List.mem_cons_self ..
 have hN : ∀ b, b ∈ pbBlk pb ++ [Y.L.M] → Y.L.N ≤ b := by
  intro b hb
  refine (h.ge b ?_).1
  rw [AL.tot]
  rcases List.mem_append.1 hb with hb | hb
  ·simp only [List.mem_append]
   exact .inl (.inl (.inl (.inl (.inl (.inr hb)))))
  ·simp at hb
   simp only [List.mem_append]
   refine .inl (.inl (.inl (.inl (.inl (.inl ?_)))))
   rw [hb]
   exact List.mem_cons_self ..
 refine ⟨hp, hc, hr.chg x (out _ (by simp)) (out _ (by simp)), ?_, hbel.trans (x.below h.st.prog.le hN)⟩
 simp
 omega

theorem StepMem.facts (so : SOk Y) (h : StepMem Y mcap m n pool rem pb len q PB w) (hPB : PB < 8900000000000) :
  w.cell? ⟨Y.L.M, Y.ro + 1, none⟩ = some (.slice (some ⟨Y.Dr, 0, none⟩) len Y.L.nq) ∧ w.cell? ⟨Y.L.M, 6, none⟩ = some (poolVal pb pool.length) ∧ w.frozen? ⟨Y.L.M, 6, none⟩ = false ∧ Y.L.M < w.heap.size ∧
  w.ownsRow Y.L.N 209 1 (poolVal pb pool.length) pool.length (pool.map fun t => .pointer (some ⟨t.1, 0, none⟩)) ∧ pool.length < 9990000000000 ∧ Y.L.N ≤ w.heap.size ∧ (poolVal pb pool.length).ownBlock ≠ some Y.L.M ∧ ProgAt w Y.L.N Y.L.R Y.L.PR Y.L.I Y.L.np Y.L.pg := by
 obtain ⟨c1, c2, c3, c4, c5⟩ := SL.cells so pb len m.isSome n.length pool.length
 have hM := h.st.st.mblk
 have hb := h.bound
 refine ⟨(hM.cell _).trans c1, (hM.cell _).trans c3, hM.free _, hM.lt, h.st.st.prow, by omega, h.st.st.prog.le, ?_, h.st.st.prog⟩
 intro e
 have hm := (poolVal_own _ _ _).1 e
 have := h.st.apart
 rw [List.nodup_iff_count] at this
 have h1 := this Y.L.M
 have e1 : (Y.at pb len m.isSome).tot n pool rem [] ([Y.Dr, Y.Sr] ++ Y.X) = [Y.L.M] ++ [Y.L.S, Y.L.D, Y.L.F, Y.L.MC] ++ pbBlk pb ++ aBlks n ++ pBlks pool ++ aBlks rem ++ pBlks [] ++ ([Y.Dr, Y.Sr] ++ Y.X) := rfl
 rw [e1] at h1
 simp only [List.count_append] at h1
 have h2 : 1 ≤ List.count Y.L.M (pbBlk pb) := List.count_pos_iff.2 hm
 have h3 : List.count Y.L.M [Y.L.M] = 1 := by simp
 omega

end
end Go.Proofs.YtkbmigfkclnlaaaGreatDoor
namespace Go.Proofs.YtkbmigfkclnlaaaGreatDoor
open Go.RowKit Go.Rx

section
variable {Y : SL} {E : Env} {p k : Nat} {mcap : List Int} {m : Option (List Int)} {n : List CE} {pool : List Th} {rem q : List CE} {pb : Option (Nat × Nat)} {len PB j : Nat} {w : World} {R : List Env.Entry × Option (List Int)} {Q : Exit → Act → World → Prop}

def GoOn (Y : SL) (E : Env) (p k : Nat) (q : List CE) (PB j : Nat) (R : List Env.Entry × Option (List Int)) (Q : Exit → Act → World → Prop) : Prop :=
 ∀ a' w' mcap' m' n' pool' pb', HF Y.L.M Y.ro Y.L.qo p (p + (E.st p).2) (E.st p).1 Y.L.F (j + 1) a' → StepMem Y mcap' m' n' pool' (q.drop (j + 1)) pb' q.length q PB w' →
  Env.stepF E p k ((q.drop (j + 1)).map fg) (n'.map fg) m' = R → Q .normal a' w'

theorem nstAway (h : StepMem Y mcap m n pool rem pb len q PB w) (y : Ext w) : StepMem Y mcap m n pool rem pb len q PB y.now := by
 have cy := Chg.of_below y.below
 exact ⟨h.st.away cy (fun b _ hb => by cases hb) (fun b hb => by cases hb), h.cap, h.rows.chg cy (by simp) (by simp), h.bound, h.below.trans (cy.below h.st.st.prog.le (fun b hb => by cases hb))⟩

theorem round_no (so : SOk Y) (se : SEnv Y E p k) {pc : Nat} {t : Th × List Int} (hm : StepMem Y mcap m n pool ((pc, some t) :: q.drop (j + 1)) pb q.length q PB w) (hj : j < q.length) (hqj : q[j]? = some (pc, some t))
  (hp : 0 < pc ∧ pc < Y.L.np) (hlq : q.length < Y.L.nq) (hop : (Y.L.pg pc).op = 7 ∨ (Y.L.pg pc).op = 8) (htk : E.takes (E.prog pc) (E.st p).1 = false)
  (hR : Env.stepF E p k ((pc, some t.2) :: (q.drop (j + 1)).map fg) (n.map fg) m = R) (hPB : PB < 8900000000000) (hgo : GoOn Y E p k q PB j R Q)
  {a : Act} (hf : HF Y.L.M Y.ro Y.L.qo p (p + (E.st p).2) (E.st p).1 Y.L.F j a) : stBody.wp Tryz.prog Q a w := by
 obtain ⟨f1, f6, ff6, fM, fo, fk, fb, fp, fP⟩ := hm.facts so hPB
 obtain ⟨dl, d1, d2, d3⟩ := hm.rows.d
 have hD : w.cell? ⟨Y.Dr, j * 2 + 1, none⟩ = some (.pointer (some ⟨t.1.1, 0, none⟩)) := by rw [d1.cell, (d3 j _ hqj).2]; rfl
 obtain ⟨r1, r2, r3⟩ := hm.st.rthr pc t (List.mem_cons_self ..)
 have hnq := so.ok.nq
 have hnq' : Y.L.nq ≤ 100000 := hnq
 have hle : Env.stepF E p k ((q.drop (j + 1)).map fg) (n.map fg) m = R := by
  rw [← hR, Env.stepF]
  have h4 : ¬ (E.prog pc).op = 4 := by rw [se.prog pc hp.1 hp.2]; omega
  rw [if_neg h4, htk]
  rfl
 have fin : ∀ a' g cap w1, HF Y.L.M Y.ro Y.L.qo p (p + (E.st p).2) (E.st p).1 Y.L.F (j + 1) a' →
   w1.ownsRow Y.L.N 209 1 (.slice (some ⟨g, 0, none⟩) (pool.length + 1) cap) (pool.length + 1) ((pool.map fun t => .pointer (some ⟨t.1, 0, none⟩)) ++ [.pointer (some ⟨t.1.1, 0, none⟩)]) →
   (∃ y : Ext w, y.now.grownBy w1 (poolVal pb pool.length).ownBlock) → ((poolVal pb pool.length).ownBlock = some g ∨ w.heap.size ≤ g) → g < w1.heap.size →
   Q .normal a' (w1.setCell ⟨Y.L.M, 6, none⟩ (.slice (some ⟨g, 0, none⟩) (pool.length + 1) cap)) := by
  intro a' g cap w1 hf' hown hex hgg hgl
  have hb := hm.bound
  simp only [List.length_cons] at hb
  exact hgo a' _ mcap m n _ _ hf' (StepMem.back hm.st.toFr hm.cap hm.rows (by omega) hm.below hPB hex hown hgg hgl) hle
 rcases hop with hop | hop
 ·obtain ⟨k1, k2⟩ := se.t7 pc hp.1 hp.2 hop
  rw [k1] at htk
  have hru := fP.rune pc hp.1 hp.2
  obtain ⟨v, hv, hr⟩ := hru
  rcases hr with ⟨_, hnil⟩ | ⟨rb, cr, rfl, hrb, hcc⟩
  ·exfalso
   rw [hnil] at k2
   unfold ClassLen at k2
   simp at k2
  ·have hIl := fP.lt.2.2
   have hNl := fP.le
   have hmr : ∀ y : Ext w, Calls Tryz.prog 99 #[.pointer (some ⟨Y.L.I, pc * 4, none⟩), .int .i32 (E.st p).1] y.now fun e w1 => e = .returned (.bool false) ∧ w1 = y.now := by
    intro y
    have := match_rune Y.L.I pc rb cr (Y.L.pg pc).rune (E.st p).1 y.now ((y.cell _ _ (by omega)).trans hv) (fun i x hx => (y.cell _ _ (by omega)).trans (hcc i x hx)) k2
    rw [htk] at this
    exact this
   exact st_no7_f Y.L.M Y.ro Y.L.qo p (p + (E.st p).2) (E.st p).1 Y.L.F j w Q Y.Dr q.length Y.L.nq f1 (by omega) t.1.1 t.1.2 Y.L.nc hj hD d1.lt Y.L.N Y.L.R Y.L.PR Y.L.I Y.L.np Y.L.pg fP pc hp.1 hp.2 ((r1.cell 0).trans rfl) ((r1.cell 1).trans rfl) r1.lt fM hop hmr
    Y.L.N pool.length _ _ f6 ff6 fo fk fb fp fin hf
 ·obtain ⟨x, k1, k2⟩ := se.t8 pc hp.1 hp.2 hop
  rw [k2] at htk
  have hne : (E.st p).1 ≠ x := fun e => by rw [e] at htk; simp at htk
  obtain ⟨v, hv, hr⟩ := fP.rune pc hp.1 hp.2
  rcases hr with ⟨_, hnil⟩ | ⟨rb, cr, rfl, hrb, hcc⟩
  ·rw [k1] at hnil; cases hnil
  ·have hNl := fP.le
   rw [k1] at hv hcc
   exact st_no8_f Y.L.M Y.ro Y.L.qo p (p + (E.st p).2) (E.st p).1 Y.L.F j w Q Y.Dr q.length Y.L.nq f1 (by omega) t.1.1 t.1.2 Y.L.nc hj hD d1.lt Y.L.N Y.L.R Y.L.PR Y.L.I Y.L.np Y.L.pg fP pc hp.1 hp.2 ((r1.cell 0).trans rfl) ((r1.cell 1).trans rfl) r1.lt fM hop
    rb cr x hv (hcc 0 x rfl) (by omega) hne Y.L.N pool.length _ _ f6 ff6 fo fk fb fp fin hf

end
end Go.Proofs.YtkbmigfkclnlaaaGreatDoor
