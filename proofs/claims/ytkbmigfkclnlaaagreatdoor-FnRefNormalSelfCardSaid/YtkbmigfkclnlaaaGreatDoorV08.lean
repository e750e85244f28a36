/-
FnRefNormalSelf: the regular expressions, the digest and the reference, part 8 of 26.
-/
import Derived.Test.YtkbmigfkclnlaaaGreatDoorV07
import Derived.Test.YtkbmigfkclnlaaaGreatDoorV04
import Derived.Test.YtkbmigfkclnlaaaGreatDoorV01
import Derived.WalkMore
import Derived.ArgAppend
set_option linter.all false
namespace Go.Proofs.YtkbmigfkclnlaaaGreatDoor
open Go.RowKit Go.Rx

def At (L : Lay) (E : Env) (b' : Env.BS) (k0 : Nat) (l k : Nat) (a : Act) (w : World) : Prop :=
 (l = 1 ∧ k ≤ k0 ∧ ∃ b pc pos, 0 < pc ∧ pc < L.np ∧ pos ≤ L.en ∧ Frm L.R L.B pc (pos : Nat) false a ∧ BtMem L b w ∧ Good L b ∧ Env.moves E k (b, .go pc pos) = (b', .fin true)) ∨
  (l = 0 ∧ k ≤ k0 + 1 ∧ ∃ b j r, b.jobs = j :: r ∧ Frm L.R L.B j.pc j.pos j.arg a ∧ BtMem L { b with jobs := r } w ∧ Good L b ∧ Env.moves E k (b, .pop) = (b', .fin true))

def Top (L : Lay) (E : Env) (b' : Env.BS) (k : Nat) (a : Act) (w : World) : Prop :=
 ∃ b, Hed L.R L.B a ∧ BtMem L b w ∧ Good L b ∧ Env.moves E k (b, .pop) = (b', .fin true)

def Done (L : Lay) (b' : Env.BS) (a : Act) (w : World) : Prop :=
 a.tmps.size = 401 ∧ a.defers = [] ∧ a.tmps.getD 10 undef = .bool true ∧ Below L.N L.w0 w ∧ Blk w L.MC (intCells b'.mcap) L.tM ∧ Stands L w

theorem moves_fin (E : Env) (b : Env.BS) (ok : Bool) : ∀ k, Env.moves E k (b, .fin ok) = (b, .fin ok)
 | 0 => rfl
 | k + 1 => by rw [Env.moves]; exact moves_fin E b ok k

theorem out_of {L : Lay} {E : Env} {b' : Env.BS} {k0 : Nat} {Q : Exit → Act → World → Prop} (hE : ∀ a w k, k ≤ k0 → Top L E b' k a w → Q (.exit 1) a w) (hR : ∀ a w, Done L b' a w → Q .ret a w)
  (x : Env.BS × Env.Mode) (k : Nat) (hk : k ≤ k0) (h : Env.moves E k x = (b', .fin true)) : Out L (Exit.jumps (fun l a w => ∃ k', k' < k + 1 ∧ At L E b' k0 l k' a w) Q) x := by
 obtain ⟨b, m⟩ := x
 cases m with
 | pop => intro a w hh hm hg; exact hE a w k hk ⟨b, hh, hm, hg, h⟩
 | go pc pos => intro p0 p1 p2 a w hf hm hg; exact ⟨k, by omega, .inl ⟨rfl, hk, b, pc, pos, p0, p1, p2, hf, hm, hg, h⟩⟩
 | fin ok =>
  rw [moves_fin] at h
  injection h with h1 h2
  injection h2 with h2
  subst h1
  subst h2
  intro a w s1 s2 s3 s4 s5 s6
  exact hR a w ⟨s1, s2, s3, s4, s5, s6⟩

theorem pass_one {L : Lay} (cx : Ctx L) (rank : Nat → Nat) (top : Nat) {b' : Env.BS} {k0 : Nat} {Q : Exit → Act → World → Prop} (hE : ∀ a w k, k ≤ k0 → Top L (envOf L rank top) b' k a w → Q (.exit 1) a w) (hR : ∀ a w, Done L b' a w → Q .ret a w)
  (k : Nat) (hk : k ≤ k0) (b : Env.BS) (pc pos : Nat) (p0 : 0 < pc) (p1 : pc < L.np) (p2 : pos ≤ L.en) (a : Act) (w : World) (hf : Frm L.R L.B pc (pos : Nat) false a) (hm : BtMem L b w) (hg : Good L b)
  (h : Env.moves (envOf L rank top) k (b, .go pc pos) = (b', .fin true)) : (btRest 1).wp Tryz.prog (Exit.jumps (fun l a w => ∃ k', k' < k ∧ At L (envOf L rank top) b' k0 l k' a w) Q) a w := by
 cases k with
 | zero => cases h
 | succ k =>
  rw [Env.moves] at h
  have hv := visit_mem cx.ap cx.bd hm pc pos p1 p2
  cases hvis : b.vis pc pos with
  | true =>
   have h' : Env.moves (envOf L rank top) k (b, .pop) = (b', .fin true) := by
    rw [← h]
    congr 1
    show _ = if b.vis pc pos then (b, Env.Mode.pop) else _
    rw [if_pos hvis]
   rw [hvis, mark_same hvis] at hv
   refine visit_no_f L.R L.B w _ pc pos (fun w' => Chg [L.V] w w' ∧ BtMem L b w') hv ?_ hf
   intro a' w' hw hh
   exact hE a' w' k (by omega) ⟨b, hh, hw.2, hg, h'⟩
  | false =>
   have h' : Env.moves (envOf L rank top) k (Env.enter (envOf L rank top) { b with vis := Env.mark b.vis pc pos } pc pos) = (b', .fin true) := by
    rw [← h]
    congr 1
    show _ = if b.vis pc pos then _ else _
    rw [if_neg (by rw [hvis]; exact Bool.false_ne_true)]
   rw [hvis] at hv
   refine visit_yes_f L.R L.B w _ pc pos (fun w' => Chg [L.V] w w' ∧ BtMem L { b with vis := Env.mark b.vis pc pos } w') hv ?_ hf
   intro a' w' hw hf'
   have hc := cnt_mark L.np L.en b.vis pc pos p1 p2 hvis
   have hl := hg.len
   exact enter_sim cx rank top hw.2 ⟨hg.cap, hg.mcap, hg.mone, hg.jobs, by show _ ≤ cnt L.np L.en (Env.mark b.vis pc pos); rw [hc]; exact Nat.le_succ_of_le hl⟩ (by show b.jobs.length + 1 ≤ cnt L.np L.en (Env.mark b.vis pc pos); omega) pc pos p0 p1 p2 hf' _ (out_of hE hR _ k (by omega) h')

end Go.Proofs.YtkbmigfkclnlaaaGreatDoor
namespace Go.Proofs.YtkbmigfkclnlaaaGreatDoor
open Go.RowKit Go.Rx

theorem pass_zero {L : Lay} (cx : Ctx L) (rank : Nat → Nat) (top : Nat) {b' : Env.BS} {k0 : Nat} {Q : Exit → Act → World → Prop} (hE : ∀ a w k, k ≤ k0 → Top L (envOf L rank top) b' k a w → Q (.exit 1) a w) (hR : ∀ a w, Done L b' a w → Q .ret a w)
  (k : Nat) (hk : k ≤ k0) (b : Env.BS) (j : Env.Job) (r : List Env.Job) (hb : b.jobs = j :: r) (a : Act) (w : World) (hf : Frm L.R L.B j.pc j.pos j.arg a) (hm : BtMem L { b with jobs := r } w) (hg : Good L b)
  (h : Env.moves (envOf L rank top) (k + 1) (b, .pop) = (b', .fin true)) : (btRest 0).wp Tryz.prog (Exit.jumps (fun l a w => ∃ k', k' < k + 1 ∧ At L (envOf L rank top) b' k0 l k' a w) Q) a w := by
 rw [bt_tail]
 refine wp_seq (wp_skip ?_)
 show btTail.wp Tryz.prog _ a w
 obtain ⟨p0, p1, hj⟩ := hg.jobs j (by rw [hb]; exact List.mem_cons_self ..)
 have hr : ∀ x, x ∈ r → x ∈ b.jobs := fun x hx => by rw [hb]; exact List.mem_cons_of_mem _ hx
 have hlen := hg.len
 rw [hb] at hlen
 simp only [List.length_cons] at hlen
 have hg' : Good L { b with jobs := r } := ⟨hg.cap, hg.mcap, hg.mone, fun x hx => hg.jobs x (hr x hx), by show r.length ≤ _; exact Nat.le_of_succ_le hlen⟩
 obtain ⟨jpc, jarg, jpos⟩ := j
 dsimp only at hj p0 p1 hf hb
 rw [Env.moves] at h
 have out := fun x hx => out_of hE hR x k hk hx
 cases jarg with
 | false =>
  have hp : 0 ≤ jpos ∧ jpos ≤ L.en := by
   rcases hj with ⟨_, h⟩ | ⟨_, h⟩
   ·cases h
   ·exact h
  have h' : Env.moves (envOf L rank top) k (Env.enter (envOf L rank top) { b with jobs := r } jpc jpos.toNat) = (b', .fin true) := by
   rw [← h]
   congr 1
   simp only [Env.move, hb, Bool.false_eq_true, if_false]
  have e : jpos = ((jpos.toNat : Nat) : Int) := by omega
  rw [e] at hf
  exact enter_sim cx rank top hm hg' (by show r.length + 1 ≤ _; exact hlen) jpc jpos.toNat p0 p1 (by omega) hf _ (out _ h')
 | true =>
  rcases hj with ⟨hop, _⟩ | ⟨hop, hp⟩
  ·have h' : Env.moves (envOf L rank top) k ({ b with jobs := r, cap := b.cap.set (L.pg jpc).arg jpos }, .pop) = (b', .fin true) := by
    rw [← h]
    congr 1
    have hop' : ((envOf L rank top).prog jpc).op = 2 := hop
    simp only [Env.move, hb, if_true, hop']
    rfl
   have o := out _ h'
   have hK := cx.wf.cap jpc p0 p1 hop
   have hcl := hg.cap
   obtain ⟨v, hv⟩ : ∃ v, b.cap[(L.pg jpc).arg]? = some v := ⟨_, List.getElem?_eq_getElem (by omega)⟩
   obtain ⟨J, cj, h1, _⟩ := hm.jobs
   have hcc : w.cell? ⟨L.C, (L.pg jpc).arg, none⟩ = some (.int .i64 v) := by
    have := hm.cap.cell (L.pg jpc).arg
    rw [this]; unfold intCells; rw [List.getElem?_map, hv]; rfl
   refine enter_cap_back_f L.N L.R L.PR L.I L.np L.pg w hm.prog jpc p0 p1 L.B _ hop L.C L.nc v hK cx.wf.nc.2 ((h1.cell 1).trans rfl) hcc h1.lt hm.cap.lt (hm.cap.free _) jpos ?_ hf
   intro a' y hh
   exact o a' _ hh (BtMem.setCap cx.ap (hm.ext y) _ jpos) ⟨by simpa using hcl, hg'.mcap, hg'.mone, hg'.jobs, hg'.len⟩
  ·have hop0 : (L.pg jpc).op = 0 := by
    rcases hop with h | h
    ·exact h
    ·cases h
   obtain ⟨o1, o2⟩ := cx.wf.alt jpc p0 p1 hop0
   have h' : Env.moves (envOf L rank top) k ({ b with jobs := r }, .go (L.pg jpc).arg jpos.toNat) = (b', .fin true) := by
    rw [← h]
    congr 1
    have hop' : ((envOf L rank top).prog jpc).op = 0 := hop0
    simp only [Env.move, hb, if_true, hop']
    rfl
   have o := out _ h'
   have e : jpos = ((jpos.toNat : Nat) : Int) := by omega
   rw [e] at hf
   refine enter_alt_back_f L.N L.R L.PR L.I L.np L.pg w hm.prog jpc p0 p1 L.B jpos.toNat _ hop0 ?_ hf
   intro a' hf'
   exact o o1 o2 (by omega) a' w hf' hm hg'

theorem loop_sim {L : Lay} (cx : Ctx L) (rank : Nat → Nat) (top : Nat) {b' : Env.BS} {k : Nat} {a : Act} {w : World} (hT : Top L (envOf L rank top) b' k a w) (Q : Exit → Act → World → Prop) (hR : ∀ a w, Done L b' a w → Q .ret a w) :
  (Code.loop btLoop).wp Tryz.prog Q a w := by
 refine wp_loop_nat (Top L (envOf L rank top) b') k hT ?_
 rintro k a w ⟨b, hh, hm, hg, h⟩
 cases k with
 | zero => cases h
 | succ k =>
  cases hb : b.jobs with
  | nil =>
   rw [Env.moves] at h
   have e : Env.move (envOf L rank top) (b, .pop) = (b, .fin false) := by simp only [Env.move, hb]
   rw [e, moves_fin] at h
   injection h with h1 h2
   injection h2 with h2
   cases h2
  | cons j r =>
   have hlen := hg.len
   rw [hb] at hlen
   simp only [List.length_cons] at hlen
   have hn : r.length < 1000000000 := by
    have h1 := cnt_le L.np L.en b.vis
    have hbe := cx.bd.en
    have h2 : L.np * (L.en + 1) ≤ 500 * 262145 := Nat.mul_le_mul cx.bd.np (by omega)
    omega
   obtain ⟨J, cj, hcj, h3, hf, j0, j1, j2, hm'⟩ := BtMem.pop cx.ap hb hm
   refine head_go_f L.R L.B w _ J r.length cj hn h3 ?_ hh
   intro a1 hh1
   refine wp_scope_nat (At L (envOf L rank top) b' k) ?_ ?_
   ·refine pop_go_f L.R L.B w _ J r.length cj hn h3 hf hcj j.pc j.arg j.pos j0 j1 j2 ?_ hh1
    intro a2 hf2
    exact ⟨k + 1, .inr ⟨rfl, Nat.le_refl _, b, j, r, hb, hf2, hm', hg, h⟩⟩
   ·have hE : ∀ a w k', k' ≤ k → Top L (envOf L rank top) b' k' a w → (Exit.inBlock 1 (Exit.then (fun a' w' => ∃ k', k' < k + 1 ∧ Top L (envOf L rank top) b' k' a' w') Q)) (.exit 1) a w := by
     intro a w k' hk' ht
     show ∃ k', k' < k + 1 ∧ _
     exact ⟨k', by omega, ht⟩
    have hR' : ∀ a w, Done L b' a w → (Exit.inBlock 1 (Exit.then (fun a' w' => ∃ k', k' < k + 1 ∧ Top L (envOf L rank top) b' k' a' w') Q)) .ret a w := fun a w hd => hR a w hd
    rintro k2 l a2 w2 (⟨rfl, hk2, b2, pc, pos, p0, p1, p2, hf2, hm2, hg2, h2⟩ | ⟨rfl, hk2, b2, j2, r2, hb2, hf2, hm2, hg2, h2⟩)
    ·exact ⟨_, bt_label1, pass_one cx rank top hE hR' k2 hk2 b2 pc pos p0 p1 p2 a2 w2 hf2 hm2 hg2 h2⟩
    ·cases k2 with
     | zero => cases h2
     | succ k2 => exact ⟨_, bt_label0, pass_zero cx rank top hE hR' k2 (by omega) b2 j2 r2 hb2 a2 w2 hf2 hm2 hg2 h2⟩

end Go.Proofs.YtkbmigfkclnlaaaGreatDoor
namespace Go.Proofs.YtkbmigfkclnlaaaGreatDoor
open Go.RowKit Go.Rx

set_option maxRecDepth 1000000 in
set_option maxHeartbeats 4000000 in
theorem try_sim {L : Lay} (cx : Ctx L) (rank : Nat → Nat) (top : Nat) {b b' : Env.BS} {k : Nat} {w : World} (h : BtMem L b w) (hj : b.jobs = []) (hcap : b.cap.length = L.nc) (hmcap : b.mcap.length = L.nc) (hmone : b.mcap[1]? = some (-1))
  (pc pos : Nat) (p0 : 0 < pc) (p1 : pc < L.np) (p2 : pos ≤ L.en) (hv : b.vis pc pos = false) (hop : (L.pg pc).op ≠ 5)
  (hk : Env.moves (envOf L rank top) k ({ b with jobs := [⟨pc, false, pos⟩], vis := Env.mark b.vis pc pos }, .pop) = (b', .fin true)) :
  Calls Tryz.prog 104 #[.pointer (some ⟨L.R, 0, none⟩), .pointer (some ⟨L.B, 0, none⟩), .iface 237 (.pointer (some ⟨L.B, 5, none⟩)), .int .u32 pc, .int .i64 pos] w fun e w' =>
   e = .returned (.bool true) ∧ Below L.N L.w0 w' ∧ Blk w' L.MC (intCells b'.mcap) L.tM ∧ Stands L w' := by
 have hpush := push_first_mem cx.ap cx.bd h pc p0 p1 hop (by rw [hj]; simp) pos p2 hv
 rw [hj] at hpush
 have hl := h.prog.longest
 have HK := Lib.hid hk
 have HC := Lib.hid hcap
 have HM := Lib.hid hmcap
 have H1 := Lib.hid hmone
 have HV := Lib.hid hv
 clear hk hcap hmcap hmone hv hj
 go_enter Tryz.func104, Tryz.ntmps104
 go_wp2_with (first | (go_at_call 119; (with_reducible refine hpush.mono ?_); rintro e w1 ⟨rfl, hm1⟩))
 show (Code.loop btLoop).wp Tryz.prog _ _ _
 refine loop_sim (b' := b') (k := k) cx rank top ⟨_, ⟨rfl, rfl, rfl, rfl, rfl, rfl⟩, hm1, ⟨HC.out, HM.out, H1.out, ?_, ?_⟩, HK.out⟩ _ ?_
 ·intro j hj
  simp at hj
  subst hj
  exact ⟨p0, p1, .inr ⟨.inr rfl, by simp, by simpa using p2⟩⟩
 ·have := cnt_mark L.np L.en b.vis pc pos p1 p2 HV.out
  simp [this]
 ·intro a w' hd
  obtain ⟨d1, d2, d3, d4, d5, d6⟩ := hd
  obtain ⟨t, df⟩ := a
  dsimp only at d1 d2 d3
  subst d2
  show bodyPost Tryz.prog Tryz.f104 (fun e w' => e = .returned (.bool true) ∧ Below L.N L.w0 w' ∧ Blk w' L.MC (intCells b'.mcap) L.tM ∧ Stands L w') .ret ⟨t, []⟩ w'
  refine bodyPost_ret (v := .bool true) ?_ rfl ⟨rfl, d4, d5, d6⟩
  have d3' : t[10]?.getD undef = .bool true := by rw [← Array.getD_eq_getD_getElem?]; exact d3
  simp [results, Tryz.results104, go_sem, d3']

end Go.Proofs.YtkbmigfkclnlaaaGreatDoor
namespace Go.Rx
theorem Env.way_length {E : Env} {pc pos : Nat} {c r : List Int} (g : Env.Way E pc pos c r) : r.length = c.length := by
 induction g with
 | alt1 _ _ ih => exact ih
 | alt2 _ _ ih => exact ih
 | cap _ _ ih => rw [ih]; split <;> simp
 | empty _ _ _ ih => exact ih
 | done _ => split <;> simp
 | nop _ _ ih => exact ih
 | rune _ _ _ ih => exact ih
end Go.Rx
namespace Go.Proofs.YtkbmigfkclnlaaaGreatDoor
open Go.RowKit Go.Rx

def envAt (pg : Nat → Inst) (s : ByteArray) (rank : Nat → Nat) (top : Nat) : Env where
 prog := pg
 n := s.size
 st := fun p => (runeAt s p, if p < s.size then 1 else 0)
 ew := fun a p => if a = 4 then decide (p = 0) else decide (p = s.size)
 takes := fun i r => if i.op = 7 then classTakes i.rune r else decide (i.rune = [r])
 rank := rank
 top := top

def cap0 (nc : Nat) : List Int := (List.replicate nc (-1)).set 0 0

theorem own_base {w : World} {base base' n : Nat} {e : TypeId} {sz : Nat} {v : Value} {xs : List Value} (h : w.ownsRow base e sz v n xs) (hb : base' ≤ base) : w.ownsRow base' e sz v n xs := by
 obtain ⟨h1, h2⟩ := h
 refine ⟨h1, ?_⟩
 rcases h2 with h2 | ⟨g, cap, cur, rfl, hb2, hh, hr⟩
 ·exact .inl h2
 ·exact .inr ⟨g, cap, cur, rfl, by omega, hh, hr⟩

theorem int_grow (w : World) {ops : Array Oper} {rest : List Oper} {o : Oper} {a : Act} {Q : Exit → Act → World → Prop} (hgd : o.guard = none) (s x : Operand)
  (ho : o.op = .call { callee := .builtin .append, args := #[s, x], argTypes := #[128, 128] }) (b : Addr) (ca : Nat) (hs : a.eval s = .slice (some b) 0 ca)
  (ad : Addr) (m c : Nat) (news : List Value) (hx : a.eval x = .slice (some ad) m c) (hl : news.length = m)
  (hnews : ∀ j u, news[j]? = some u → w.cell? (ad.add j) = some u) (h1 : ∀ u ∈ news, u.oneCell' = true) (hfull : ca < m) (hn : m < 1000000000)
  (h : ∀ g cap w', w'.ownsRow w.heap.size 3 1 (.slice (some ⟨g, 0, none⟩) m cap) m news → Chg [] w w' → wpList Tryz.prog ops Q rest (a.put o.dst (.slice (some ⟨g, 0, none⟩) m cap)) w') :
  wpList Tryz.prog ops Q (o :: rest) a w := by
 obtain ⟨i, hi, hz0, hz1, hz2⟩ := info_parts int_info
 refine wpList_append_grows w hgd s x 128 ho 3 i _ 1 8 Tryz.underlying128 hi hz0 hz1 hz2 rfl (by omega) (some b) 0 ca [] hs (fun h => by cases h) rfl (fun b _ j u hj => by simp at hj) ad m c news hx (by simpa using hl) hnews h1 (by omega) (by simp [maxLen]; omega) (by omega) ?_
 intro v' w' h2 h3
 rw [Nat.zero_add, List.nil_append] at h2
 obtain ⟨k1, k2⟩ := id h2
 rcases k2 with ⟨_, k2⟩ | ⟨g, cap, cur, rfl, _⟩
 ·omega
 ·exact h g cap w' h2 ⟨h3.os, h3.tape, h3.output, h3.size, fun k hk _ => h3.block k hk (by simp)⟩

theorem moves_pop {E : Env} {b b' : Env.BS} {pc pos k : Nat} (hj : b.jobs = []) (hv : b.vis pc pos = false) (h : Env.moves E k (b, .go pc pos) = (b', .fin true)) :
  Env.moves E k ({ b with jobs := [⟨pc, false, pos⟩], vis := Env.mark b.vis pc pos }, .pop) = (b', .fin true) := by
 cases k with
 | zero => simp [Env.moves] at h
 | succ k =>
  rw [Env.moves] at h ⊢
  rw [← h]
  congr 1
  simp only [Env.move, hv, Bool.false_eq_true, if_false, Int.toNat_natCast]
  rw [← hj]

def layOf (N R PR I np : Nat) (pg : Nat → Inst) (B C MC V en nw nc : Nat) (s : ByteArray) (w0 : World) : Lay :=
 { N := N, R := R, PR := PR, I := I, np := np, pg := pg, B := B, C := C, MC := MC, V := V, en := en, nw := nw, nc := nc, s := s, tB := 204, tC := 3, tM := 3, tV := 86, w0 := w0 }

def bs0 (nc : Nat) : Env.BS := { jobs := [], vis := fun _ _ => false, cap := List.replicate nc (-1), mcap := List.replicate nc (-1) }

theorem laid_mem {N R PR I np B C MC V J en nc nw : Nat} {pg : Nat → Inst} {s : ByteArray} {w w2 w3 : World} (hl : Laid w2 w3 B C MC V J en nc nw s 204) (hP : ProgAt w3 N R PR I np pg) (hb : Below N w w3) (hBN : N ≤ B) (hBl : B < w2.heap.size)
  (hnw : np * (en + 1) ≤ nw * 32) (hnw2 : nw ≤ 8192) : BtMem (layOf N R PR I np pg B C MC V en nw nc s w) (bs0 nc) w3 := by
 obtain ⟨n1, n2, n3, n4⟩ := hl.new
 obtain ⟨a1, a2, a3, a4, a5, a6⟩ := hl.apart
 exact
 { prog := hP
   below := hb
   jobs := ⟨J, 256, hl.b, ⟨rfl, .inr ⟨J, 256, _, rfl, by show N ≤ J; omega, hl.j, by simp [bs0], by simp [maxLen], by simp [madeCells], by simp [bs0, jobsCells]⟩⟩, by show J ≠ B; omega, Ne.symm a3, Ne.symm a5, Ne.symm a6, hl.j.lt⟩
   vis := ⟨List.replicate 8192 0, VisRep.zero _ _ _ _ hnw hnw2, by
     have h := hl.v
     rw [made_one] at h
     unfold wordCells
     rw [List.map_replicate]
     exact h⟩
   cap := by
     have h := hl.c
     unfold intCells bs0
     rw [List.map_replicate]
     exact h
   mcap := by
     have h := hl.m
     unfold intCells bs0
     rw [List.map_replicate]
     exact h }

theorem laid_apart {N R PR I np B C MC V J en nc nw : Nat} {pg : Nat → Inst} {s : ByteArray} {w w2 w3 : World} (hl : Laid w2 w3 B C MC V J en nc nw s 204) (hBN : N ≤ B) (hBl : B < w2.heap.size) :
  Apart (layOf N R PR I np pg B C MC V en nw nc s w) := by
 obtain ⟨n1, n2, n3, n4⟩ := hl.new
 obtain ⟨a1, a2, a3, a4, a5, a6⟩ := hl.apart
 exact
 { B := hBN
   C := by show N ≤ C; omega
   MC := by show N ≤ MC; omega
   V := by show N ≤ V; omega
   BC := by show B ≠ C; omega
   BM := by show B ≠ MC; omega
   BV := by show B ≠ V; omega
   CM := a1
   CV := a2
   MV := a4 }

set_option maxRecDepth 1000000 in
set_option maxHeartbeats 4000000 in
theorem backtrack_ok (R PR I np : Nat) (pg : Nat → Inst) (w : World) (hP : ProgAt w w.heap.size R PR I np pg) (hcond : w.cell? ⟨R, 13, none⟩ = some (.int .u8 4)) (hstart : w.cell? ⟨PR, 1, none⟩ = some (.int .i64 1))
  (s : ByteArray) (hs : Plain s) (nc nw : Nat) (rank : Nat → Nat) (top : Nat) (r : List Int) (hE : (envAt pg s rank top).Ok) (hF : Env.NoFail (envAt pg s rank top))
  (hwf : ∀ L : Lay, L.np = np → L.pg = pg → L.nc = nc → Wf L) (hnp : np ≤ 500) (hnp1 : 1 < np) (hen : s.size ≤ 262144) (hnc : 2 ≤ nc) (hnc2 : nc < 100) (hnw : (np * (s.size + 1) + 31) / 32 = nw) (hnw2 : nw ≤ 8192)
  (hr : Env.res (envAt pg s rank top) 1 0 (cap0 nc) = some r)
  (A ca : Nat) (hAl : A < w.heap.size) (hca : ca < nc) :
  Calls Tryz.prog 83 #[.pointer (some ⟨R, 0, none⟩), .slice none 0 0, .string s, .int .i64 0, .int .i64 nc, .slice (some ⟨A, 0, none⟩) 0 ca] w fun e w' =>
   ∃ g cap, e = .returned (.slice (some ⟨g, 0, none⟩) nc cap) ∧ w'.ownsRow w.heap.size 3 1 (.slice (some ⟨g, 0, none⟩) nc cap) nc (intCells r) ∧ Chg [] w w' := by
 have hwp := hP.prog
 have hlt := hP.lt
 have hnew := new_bit w
 have hb4 : bits .and .u8 4 4 = 4 := by rfl
 obtain ⟨B, hBd⟩ : ∃ B, w.heap.size = B := ⟨_, rfl⟩
 have hP' := hP
 rw [hBd] at hnew hlt hP' hAl
 have HBD := Lib.hid hBd
 have HR := Lib.hid hr
 have HNW := Lib.hid hnw
 clear hr hnw
 go_enter Tryz.func83, Tryz.ntmps83
 go_wp2_with fail
 go_step3
 go_wp2_with (first | (go_at_call 102; (with_reducible refine hnew.mono ?_); rintro e w1 ⟨rfl, b1, c1, z1⟩))
 have hB1 := b1.lt
 refine (inputs_init w1 B 5 s ByteArray.empty (by omega) ((b1.cell 5).trans rfl) (b1.free 5) hB1).mono ?_
 rintro e w2 ⟨rfl, hw2⟩
 dsimp only
 have b2 := b1.set 5 (.string s)
 rw [← hw2] at b2
 have c2 : Chg [B] w w2 := by rw [hw2]; exact (c1.trans (Chg.set w1 B 5 _)).mono (fun b hb _ => by simpa using hb)
 have z2 : w2.heap.size = B + 1 := by rw [hw2]; simp [World.setCell]; exact z1
 clear hw2 hnew
 have hP2 : ProgAt w2 B R PR I np pg := hP'.chg c2 (by simp)
 have p2 := hP2.prog
 have hreset := reset_any B R PR I np pg w2 hP2 hnp (by omega) B s.size nc nw s 204 b2 (Nat.le_refl _) hen hnc hnc2 HNW.out hnw2 (by
  have h1 := HNW.out
  have h2 : 2 * 1 ≤ np * (s.size + 1) := Nat.mul_le_mul (by omega) (by omega)
  omega)
 have hnc0 : (0 : Int) < (nc : Int) := by omega
 go_wp2_with fail
 refine hreset.mono ?_
 rintro e w3 ⟨rfl, C, MC, V, J, hl⟩
 dsimp only
 have q1 : w3.cell? ⟨B, 1, none⟩ = some (.slice (some ⟨C, 0, none⟩) nc nc) := (hl.b.cell 1).trans rfl
 have hnew3 := hl.new
 rw [z2] at hnew3
 have q2 : w3.cell? ⟨C, 0, none⟩ = some (.int .i64 (-1)) := by rw [hl.c.cell, List.getElem?_replicate, if_pos (by omega)]
 have q3 := hl.c.free 0
 have q4 := hl.c.lt
 have hP3 : ProgAt w3 B R PR I np pg := hP2.chg hl.chg (by simp)
 have q5 := hP3.prog
 have hRC : R ≠ C := by omega
 have hPC : PR ≠ C := by omega
 have q6 : w3.cell? ⟨PR, 1, none⟩ = some (.int .i64 1) := by
  rw [World.cell?_of_block ((c2.trans hl.chg).block PR (by omega) (by simp; omega))]; exact hstart
 have HL := Lib.hid hl
 have HP3 := Lib.hid hP3
 clear hl hP3 hreset hP2
 go_wp2_with fail
 have hl := HL.out
 have hnw' := HNW.out
 have ap : Apart (layOf B R PR I np pg B C MC V s.size nw nc s w) := laid_apart hl (Nat.le_refl _) (by omega)
 have bm := laid_mem hl HP3.out ((c2.trans hl.chg).below (by omega) (by simp)) (Nat.le_refl _) (by omega) (by omega) hnw2 (w := w)
 have bm4 := BtMem.setCap ap bm 0 0
 have cx : Ctx (layOf B R PR I np pg B C MC V s.size nw nc s w) := ⟨ap, ⟨hnp, hen, hnw2⟩, hwf _ rfl rfl rfl, rfl, hs⟩
 have hcom := Env.comes_go hE hF _ { bs0 nc with cap := cap0 nc } 1 0 (Nat.le_refl _) (by simp [bs0, cap0]) (fun pc pos h _ => by simp [bs0] at h)
 rcases hcom with ⟨r', b', e1, ⟨k, hk⟩, e3⟩ | ⟨e1, _⟩
 case inr => have := HR.out; dsimp only [bs0] at e1; rw [e1] at this; cases this
 have hrr : r' = r := by
  have := HR.out
  dsimp only [bs0] at e1
  rw [e1] at this
  exact Option.some.inj this
 subst hrr
 have e3' : b'.mcap = r' := by
  rw [e3]
  have h1 : ¬ ({ bs0 nc with cap := cap0 nc } : Env.BS).cap.length = 0 := by simp [cap0]; omega
  rw [if_neg h1, if_pos]
  simp [bs0, List.getD_eq_getElem?_getD, List.getElem?_replicate, show 1 < nc by omega]
 have hk' := moves_pop (E := envAt pg s rank top) (b := { bs0 nc with cap := cap0 nc }) rfl rfl hk
 have htry := try_sim cx rank top (b := { bs0 nc with cap := cap0 nc }) (b' := b') (k := k) bm4 rfl (by simp [cap0, layOf]) (by simp [bs0, layOf]) (by simp [bs0, List.getElem?_replicate, show 1 < nc by omega]) 1 0 (by omega) hnp1 (Nat.zero_le _) rfl (hF 1) hk'
 rw [e3'] at htry
 clear hl ap bm bm4 cx hk hk' e1 e3 e3'
 refine htry.mono ?_
 rintro e w5 ⟨rfl, d1, d2, J', n', cj', d3⟩
 dsimp only
 have t1 : w5.cell? ⟨B, 2, none⟩ = some (.slice (some ⟨MC, 0, none⟩) nc nc) := (d3.cell 2).trans rfl
 have d1' : Below w.heap.size w w5 := by rw [HBD.out]; exact d1
 have hgl := d2.lt
 have hone : ∀ u ∈ intCells r', u.oneCell' = true := by
  intro u hu
  unfold intCells at hu
  obtain ⟨x, _, rfl⟩ := List.mem_map.1 hu
  rfl
 have hlr : (intCells r').length = nc := by
  unfold intCells
  rw [List.length_map, Env.way_length (Env.res_way hE _ _ _ _ _ (Nat.le_refl _) HR.out)]
  simp [cap0]
 have hcell : ∀ (j : Nat) u, (intCells r')[j]? = some u → w5.cell? (Addr.add ⟨MC, 0, none⟩ j) = some u := by
  intro j u hu
  rw [show Addr.add ⟨MC, 0, none⟩ j = ⟨MC, j, none⟩ by simp [Addr.add]; omega]
  exact (d2.cell j).trans hu
 have HN1 := Lib.hid d2
 have HN2 := Lib.hid d3
 have HN3 := Lib.hid d1
 clear d2 d3 d1
 go_wp2_with fail
 go_step3
 go_wp2_with (at_builtin; refine int_grow _ rfl _ _ rfl ⟨A, 0, none⟩ ca rfl ⟨MC, 0, none⟩ nc nc (intCells r') rfl hlr hcell hone (by omega) (by omega) ?_)
 intro g cp w6 hown6 c6
 have b6 := HN2.out.chg c6 (by simp)
 have t2 : w6.cell? ⟨B, 5, none⟩ = some (.string s) := (b6.cell 5).trans rfl
 have t3 := b6.free 5
 have t4 := b6.lt
 have hfree := free_bit w6 B s t2 t3 t4
 have hgB : g ≠ B := by
  have h1 := (hown6.lt g rfl).1
  have := HN2.out.lt
  simp only [layOf] at this
  omega
 have H1 := Lib.hid hown6
 have H3 := Lib.hid c6
 clear hown6 c6 b6
 go_wp2_with (first | (go_at_call 105; (with_reducible refine hfree.mono ?_); rintro e w7 ⟨rfl, hw7⟩))
 rw [Exit.noGoto_ret]
 go_ret
 refine ⟨g, cp, rfl, own_base (ownsRow_chg H1.out (Chg.set w6 B 5 _) (by simpa using hgB)) (by have := d1'.size; omega), ?_⟩
 refine (((Chg.of_below d1').trans H3.out).trans (Chg.set w6 B 5 _)).mono ?_
 intro b hb hlt
 have := HBD.out
 simp at hb
 omega

end Go.Proofs.YtkbmigfkclnlaaaGreatDoor
namespace Go.Proofs.YtkbmigfkclnlaaaGreatDoor
open Go.RowKit Go.Rx

def dropSeq : Nat → Code → Code
 | 0, c => c
 | n + 1, .seq _ b => dropSeq n b
 | _ + 1, c => c

noncomputable def addScope : Code := (Tryz.f108.body.bind firstScope).getD .skip
noncomputable def addTop : Code := (findLabel addScope 0).getD .skip
noncomputable def addTop1 : Code := dropSeq 1 addTop
noncomputable def addTail : Code := dropSeq 3 addTop
noncomputable def addSw : Code := dropSeq 6 addTail

def seqPart : Nat → Code → Code
 | 0, .seq a _ => a
 | n + 1, .seq _ b => seqPart n b
 | _, c => c

def Ent (c : Code) (Q : Exit → Act → World → Prop) (a : Act) (w : World) : Prop :=
 ∀ K : Act → World → Prop, (∀ a w, (dropSeq 1 c).wp Tryz.prog Q a w → K a w) → (seqPart 0 c).wp Tryz.prog (Exit.then K Q) a w

theorem add_top : addTop = Code.skip.seq addTop1 := by kernel_rfl
theorem add_scope : addScope = (Code.label 0).seq addTop1 := by kernel_rfl
theorem add_label : findLabel addScope 0 = some addTop := by kernel_rfl

structure AF (M qo pc : Nat) (pos : Int) (CB nc F : Nat) (tv : Value) (a : Act) : Prop where
 size : a.tmps.size = 226
 defers : a.defers = []
 s0 : a.tmps.getD 0 undef = .pointer (some ⟨M, 0, none⟩)
 s1 : a.tmps.getD 1 undef = .pointer (some ⟨M, qo, none⟩)
 s2 : a.tmps.getD 2 undef = .int .u32 pc
 s3 : a.tmps.getD 3 undef = .int .i64 pos
 s4 : a.tmps.getD 4 undef = .slice (some ⟨CB, 0, none⟩) nc nc
 s5 : a.tmps.getD 5 undef = .pointer (some ⟨F, 0, none⟩)
 s6 : a.tmps.getD 6 undef = tv

structure AG (M qo pc : Nat) (pos : Int) (CB nc F : Nat) (tv : Value) (Db n : Nat) (a : Act) : Prop where
 size : a.tmps.size = 226
 defers : a.defers = []
 s0 : a.tmps.getD 0 undef = .pointer (some ⟨M, 0, none⟩)
 s1 : a.tmps.getD 1 undef = .pointer (some ⟨M, qo, none⟩)
 s2 : a.tmps.getD 2 undef = .int .u32 pc
 s3 : a.tmps.getD 3 undef = .int .i64 pos
 s4 : a.tmps.getD 4 undef = .slice (some ⟨CB, 0, none⟩) nc nc
 s5 : a.tmps.getD 5 undef = .pointer (some ⟨F, 0, none⟩)
 s6 : a.tmps.getD 6 undef = tv
 s17 : a.tmps.getD 17 undef = .pointer (some ⟨Db, n * 2, none⟩)

theorem af_lit {M qo pc : Nat} {pos : Int} {CB nc F : Nat} {tv : Value} {a : Act} (h : AF M qo pc pos CB nc F tv a) : a = ⟨#[.pointer (some ⟨M, 0, none⟩), .pointer (some ⟨M, qo, none⟩), .int .u32 pc, .int .i64 pos, .slice (some ⟨CB, 0, none⟩) nc nc, .pointer (some ⟨F, 0, none⟩), tv, a.tmps.getD 7 undef, a.tmps.getD 8 undef, a.tmps.getD 9 undef, a.tmps.getD 10 undef, a.tmps.getD 11 undef, a.tmps.getD 12 undef, a.tmps.getD 13 undef, a.tmps.getD 14 undef, a.tmps.getD 15 undef, a.tmps.getD 16 undef, a.tmps.getD 17 undef, a.tmps.getD 18 undef, a.tmps.getD 19 undef, a.tmps.getD 20 undef, a.tmps.getD 21 undef, a.tmps.getD 22 undef, a.tmps.getD 23 undef, a.tmps.getD 24 undef, a.tmps.getD 25 undef, a.tmps.getD 26 undef, a.tmps.getD 27 undef, a.tmps.getD 28 undef, a.tmps.getD 29 undef, a.tmps.getD 30 undef, a.tmps.getD 31 undef, a.tmps.getD 32 undef, a.tmps.getD 33 undef, a.tmps.getD 34 undef, a.tmps.getD 35 undef, a.tmps.getD 36 undef, a.tmps.getD 37 undef, a.tmps.getD 38 undef, a.tmps.getD 39 undef, a.tmps.getD 40 undef, a.tmps.getD 41 undef, a.tmps.getD 42 undef, a.tmps.getD 43 undef, a.tmps.getD 44 undef, a.tmps.getD 45 undef, a.tmps.getD 46 undef, a.tmps.getD 47 undef, a.tmps.getD 48 undef, a.tmps.getD 49 undef, a.tmps.getD 50 undef, a.tmps.getD 51 undef, a.tmps.getD 52 undef, a.tmps.getD 53 undef, a.tmps.getD 54 undef, a.tmps.getD 55 undef, a.tmps.getD 56 undef, a.tmps.getD 57 undef, a.tmps.getD 58 undef, a.tmps.getD 59 undef, a.tmps.getD 60 undef, a.tmps.getD 61 undef, a.tmps.getD 62 undef, a.tmps.getD 63 undef, a.tmps.getD 64 undef, a.tmps.getD 65 undef, a.tmps.getD 66 undef, a.tmps.getD 67 undef, a.tmps.getD 68 undef, a.tmps.getD 69 undef, a.tmps.getD 70 undef, a.tmps.getD 71 undef, a.tmps.getD 72 undef, a.tmps.getD 73 undef, a.tmps.getD 74 undef, a.tmps.getD 75 undef, a.tmps.getD 76 undef, a.tmps.getD 77 undef, a.tmps.getD 78 undef, a.tmps.getD 79 undef, a.tmps.getD 80 undef, a.tmps.getD 81 undef, a.tmps.getD 82 undef, a.tmps.getD 83 undef, a.tmps.getD 84 undef, a.tmps.getD 85 undef, a.tmps.getD 86 undef, a.tmps.getD 87 undef, a.tmps.getD 88 undef, a.tmps.getD 89 undef, a.tmps.getD 90 undef, a.tmps.getD 91 undef, a.tmps.getD 92 undef, a.tmps.getD 93 undef, a.tmps.getD 94 undef, a.tmps.getD 95 undef, a.tmps.getD 96 undef, a.tmps.getD 97 undef, a.tmps.getD 98 undef, a.tmps.getD 99 undef, a.tmps.getD 100 undef, a.tmps.getD 101 undef, a.tmps.getD 102 undef, a.tmps.getD 103 undef, a.tmps.getD 104 undef, a.tmps.getD 105 undef, a.tmps.getD 106 undef, a.tmps.getD 107 undef, a.tmps.getD 108 undef, a.tmps.getD 109 undef, a.tmps.getD 110 undef, a.tmps.getD 111 undef, a.tmps.getD 112 undef, a.tmps.getD 113 undef, a.tmps.getD 114 undef, a.tmps.getD 115 undef, a.tmps.getD 116 undef, a.tmps.getD 117 undef, a.tmps.getD 118 undef, a.tmps.getD 119 undef, a.tmps.getD 120 undef, a.tmps.getD 121 undef, a.tmps.getD 122 undef, a.tmps.getD 123 undef, a.tmps.getD 124 undef, a.tmps.getD 125 undef, a.tmps.getD 126 undef, a.tmps.getD 127 undef, a.tmps.getD 128 undef, a.tmps.getD 129 undef, a.tmps.getD 130 undef, a.tmps.getD 131 undef, a.tmps.getD 132 undef, a.tmps.getD 133 undef, a.tmps.getD 134 undef, a.tmps.getD 135 undef, a.tmps.getD 136 undef, a.tmps.getD 137 undef, a.tmps.getD 138 undef, a.tmps.getD 139 undef, a.tmps.getD 140 undef, a.tmps.getD 141 undef, a.tmps.getD 142 undef, a.tmps.getD 143 undef, a.tmps.getD 144 undef, a.tmps.getD 145 undef, a.tmps.getD 146 undef, a.tmps.getD 147 undef, a.tmps.getD 148 undef, a.tmps.getD 149 undef, a.tmps.getD 150 undef, a.tmps.getD 151 undef, a.tmps.getD 152 undef, a.tmps.getD 153 undef, a.tmps.getD 154 undef, a.tmps.getD 155 undef, a.tmps.getD 156 undef, a.tmps.getD 157 undef, a.tmps.getD 158 undef, a.tmps.getD 159 undef, a.tmps.getD 160 undef, a.tmps.getD 161 undef, a.tmps.getD 162 undef, a.tmps.getD 163 undef, a.tmps.getD 164 undef, a.tmps.getD 165 undef, a.tmps.getD 166 undef, a.tmps.getD 167 undef, a.tmps.getD 168 undef, a.tmps.getD 169 undef, a.tmps.getD 170 undef, a.tmps.getD 171 undef, a.tmps.getD 172 undef, a.tmps.getD 173 undef, a.tmps.getD 174 undef, a.tmps.getD 175 undef, a.tmps.getD 176 undef, a.tmps.getD 177 undef, a.tmps.getD 178 undef, a.tmps.getD 179 undef, a.tmps.getD 180 undef, a.tmps.getD 181 undef, a.tmps.getD 182 undef, a.tmps.getD 183 undef, a.tmps.getD 184 undef, a.tmps.getD 185 undef, a.tmps.getD 186 undef, a.tmps.getD 187 undef, a.tmps.getD 188 undef, a.tmps.getD 189 undef, a.tmps.getD 190 undef, a.tmps.getD 191 undef, a.tmps.getD 192 undef, a.tmps.getD 193 undef, a.tmps.getD 194 undef, a.tmps.getD 195 undef, a.tmps.getD 196 undef, a.tmps.getD 197 undef, a.tmps.getD 198 undef, a.tmps.getD 199 undef, a.tmps.getD 200 undef, a.tmps.getD 201 undef, a.tmps.getD 202 undef, a.tmps.getD 203 undef, a.tmps.getD 204 undef, a.tmps.getD 205 undef, a.tmps.getD 206 undef, a.tmps.getD 207 undef, a.tmps.getD 208 undef, a.tmps.getD 209 undef, a.tmps.getD 210 undef, a.tmps.getD 211 undef, a.tmps.getD 212 undef, a.tmps.getD 213 undef, a.tmps.getD 214 undef, a.tmps.getD 215 undef, a.tmps.getD 216 undef, a.tmps.getD 217 undef, a.tmps.getD 218 undef, a.tmps.getD 219 undef, a.tmps.getD 220 undef, a.tmps.getD 221 undef, a.tmps.getD 222 undef, a.tmps.getD 223 undef, a.tmps.getD 224 undef, a.tmps.getD 225 undef], []⟩ := by
 obtain ⟨t, df⟩ := a
 have e1 : t = ((List.range 226).map (lay t [(0, .pointer (some ⟨M, 0, none⟩)), (1, .pointer (some ⟨M, qo, none⟩)), (2, .int .u32 pc), (3, .int .i64 pos), (4, .slice (some ⟨CB, 0, none⟩) nc nc), (5, .pointer (some ⟨F, 0, none⟩)), (6, tv)])).toArray := by
  refine lay_eq t 226 h.size _ ?_
  intro p hp
  simp only [List.mem_cons, List.not_mem_nil, or_false] at hp
  rcases hp with rfl | rfl | rfl | rfl | rfl | rfl | rfl
  ·exact h.s0
  ·exact h.s1
  ·exact h.s2
  ·exact h.s3
  ·exact h.s4
  ·exact h.s5
  ·exact h.s6
 have e3 : df = [] := h.defers
 subst e3
 exact (congrArg (fun x => (⟨x, []⟩ : Act)) e1).trans (by kernel_rfl)

theorem ag_lit {M qo pc : Nat} {pos : Int} {CB nc F : Nat} {tv : Value} {Db n : Nat} {a : Act} (h : AG M qo pc pos CB nc F tv Db n a) : a = ⟨#[.pointer (some ⟨M, 0, none⟩), .pointer (some ⟨M, qo, none⟩), .int .u32 pc, .int .i64 pos, .slice (some ⟨CB, 0, none⟩) nc nc, .pointer (some ⟨F, 0, none⟩), tv, a.tmps.getD 7 undef, a.tmps.getD 8 undef, a.tmps.getD 9 undef, a.tmps.getD 10 undef, a.tmps.getD 11 undef, a.tmps.getD 12 undef, a.tmps.getD 13 undef, a.tmps.getD 14 undef, a.tmps.getD 15 undef, a.tmps.getD 16 undef, .pointer (some ⟨Db, n * 2, none⟩), a.tmps.getD 18 undef, a.tmps.getD 19 undef, a.tmps.getD 20 undef, a.tmps.getD 21 undef, a.tmps.getD 22 undef, a.tmps.getD 23 undef, a.tmps.getD 24 undef, a.tmps.getD 25 undef, a.tmps.getD 26 undef, a.tmps.getD 27 undef, a.tmps.getD 28 undef, a.tmps.getD 29 undef, a.tmps.getD 30 undef, a.tmps.getD 31 undef, a.tmps.getD 32 undef, a.tmps.getD 33 undef, a.tmps.getD 34 undef, a.tmps.getD 35 undef, a.tmps.getD 36 undef, a.tmps.getD 37 undef, a.tmps.getD 38 undef, a.tmps.getD 39 undef, a.tmps.getD 40 undef, a.tmps.getD 41 undef, a.tmps.getD 42 undef, a.tmps.getD 43 undef, a.tmps.getD 44 undef, a.tmps.getD 45 undef, a.tmps.getD 46 undef, a.tmps.getD 47 undef, a.tmps.getD 48 undef, a.tmps.getD 49 undef, a.tmps.getD 50 undef, a.tmps.getD 51 undef, a.tmps.getD 52 undef, a.tmps.getD 53 undef, a.tmps.getD 54 undef, a.tmps.getD 55 undef, a.tmps.getD 56 undef, a.tmps.getD 57 undef, a.tmps.getD 58 undef, a.tmps.getD 59 undef, a.tmps.getD 60 undef, a.tmps.getD 61 undef, a.tmps.getD 62 undef, a.tmps.getD 63 undef, a.tmps.getD 64 undef, a.tmps.getD 65 undef, a.tmps.getD 66 undef, a.tmps.getD 67 undef, a.tmps.getD 68 undef, a.tmps.getD 69 undef, a.tmps.getD 70 undef, a.tmps.getD 71 undef, a.tmps.getD 72 undef, a.tmps.getD 73 undef, a.tmps.getD 74 undef, a.tmps.getD 75 undef, a.tmps.getD 76 undef, a.tmps.getD 77 undef, a.tmps.getD 78 undef, a.tmps.getD 79 undef, a.tmps.getD 80 undef, a.tmps.getD 81 undef, a.tmps.getD 82 undef, a.tmps.getD 83 undef, a.tmps.getD 84 undef, a.tmps.getD 85 undef, a.tmps.getD 86 undef, a.tmps.getD 87 undef, a.tmps.getD 88 undef, a.tmps.getD 89 undef, a.tmps.getD 90 undef, a.tmps.getD 91 undef, a.tmps.getD 92 undef, a.tmps.getD 93 undef, a.tmps.getD 94 undef, a.tmps.getD 95 undef, a.tmps.getD 96 undef, a.tmps.getD 97 undef, a.tmps.getD 98 undef, a.tmps.getD 99 undef, a.tmps.getD 100 undef, a.tmps.getD 101 undef, a.tmps.getD 102 undef, a.tmps.getD 103 undef, a.tmps.getD 104 undef, a.tmps.getD 105 undef, a.tmps.getD 106 undef, a.tmps.getD 107 undef, a.tmps.getD 108 undef, a.tmps.getD 109 undef, a.tmps.getD 110 undef, a.tmps.getD 111 undef, a.tmps.getD 112 undef, a.tmps.getD 113 undef, a.tmps.getD 114 undef, a.tmps.getD 115 undef, a.tmps.getD 116 undef, a.tmps.getD 117 undef, a.tmps.getD 118 undef, a.tmps.getD 119 undef, a.tmps.getD 120 undef, a.tmps.getD 121 undef, a.tmps.getD 122 undef, a.tmps.getD 123 undef, a.tmps.getD 124 undef, a.tmps.getD 125 undef, a.tmps.getD 126 undef, a.tmps.getD 127 undef, a.tmps.getD 128 undef, a.tmps.getD 129 undef, a.tmps.getD 130 undef, a.tmps.getD 131 undef, a.tmps.getD 132 undef, a.tmps.getD 133 undef, a.tmps.getD 134 undef, a.tmps.getD 135 undef, a.tmps.getD 136 undef, a.tmps.getD 137 undef, a.tmps.getD 138 undef, a.tmps.getD 139 undef, a.tmps.getD 140 undef, a.tmps.getD 141 undef, a.tmps.getD 142 undef, a.tmps.getD 143 undef, a.tmps.getD 144 undef, a.tmps.getD 145 undef, a.tmps.getD 146 undef, a.tmps.getD 147 undef, a.tmps.getD 148 undef, a.tmps.getD 149 undef, a.tmps.getD 150 undef, a.tmps.getD 151 undef, a.tmps.getD 152 undef, a.tmps.getD 153 undef, a.tmps.getD 154 undef, a.tmps.getD 155 undef, a.tmps.getD 156 undef, a.tmps.getD 157 undef, a.tmps.getD 158 undef, a.tmps.getD 159 undef, a.tmps.getD 160 undef, a.tmps.getD 161 undef, a.tmps.getD 162 undef, a.tmps.getD 163 undef, a.tmps.getD 164 undef, a.tmps.getD 165 undef, a.tmps.getD 166 undef, a.tmps.getD 167 undef, a.tmps.getD 168 undef, a.tmps.getD 169 undef, a.tmps.getD 170 undef, a.tmps.getD 171 undef, a.tmps.getD 172 undef, a.tmps.getD 173 undef, a.tmps.getD 174 undef, a.tmps.getD 175 undef, a.tmps.getD 176 undef, a.tmps.getD 177 undef, a.tmps.getD 178 undef, a.tmps.getD 179 undef, a.tmps.getD 180 undef, a.tmps.getD 181 undef, a.tmps.getD 182 undef, a.tmps.getD 183 undef, a.tmps.getD 184 undef, a.tmps.getD 185 undef, a.tmps.getD 186 undef, a.tmps.getD 187 undef, a.tmps.getD 188 undef, a.tmps.getD 189 undef, a.tmps.getD 190 undef, a.tmps.getD 191 undef, a.tmps.getD 192 undef, a.tmps.getD 193 undef, a.tmps.getD 194 undef, a.tmps.getD 195 undef, a.tmps.getD 196 undef, a.tmps.getD 197 undef, a.tmps.getD 198 undef, a.tmps.getD 199 undef, a.tmps.getD 200 undef, a.tmps.getD 201 undef, a.tmps.getD 202 undef, a.tmps.getD 203 undef, a.tmps.getD 204 undef, a.tmps.getD 205 undef, a.tmps.getD 206 undef, a.tmps.getD 207 undef, a.tmps.getD 208 undef, a.tmps.getD 209 undef, a.tmps.getD 210 undef, a.tmps.getD 211 undef, a.tmps.getD 212 undef, a.tmps.getD 213 undef, a.tmps.getD 214 undef, a.tmps.getD 215 undef, a.tmps.getD 216 undef, a.tmps.getD 217 undef, a.tmps.getD 218 undef, a.tmps.getD 219 undef, a.tmps.getD 220 undef, a.tmps.getD 221 undef, a.tmps.getD 222 undef, a.tmps.getD 223 undef, a.tmps.getD 224 undef, a.tmps.getD 225 undef], []⟩ := by
 obtain ⟨t, df⟩ := a
 have e1 : t = ((List.range 226).map (lay t [(0, .pointer (some ⟨M, 0, none⟩)), (1, .pointer (some ⟨M, qo, none⟩)), (2, .int .u32 pc), (3, .int .i64 pos), (4, .slice (some ⟨CB, 0, none⟩) nc nc), (5, .pointer (some ⟨F, 0, none⟩)), (6, tv), (17, .pointer (some ⟨Db, n * 2, none⟩))])).toArray := by
  refine lay_eq t 226 h.size _ ?_
  intro p hp
  simp only [List.mem_cons, List.not_mem_nil, or_false] at hp
  rcases hp with rfl | rfl | rfl | rfl | rfl | rfl | rfl | rfl
  ·exact h.s0
  ·exact h.s1
  ·exact h.s2
  ·exact h.s3
  ·exact h.s4
  ·exact h.s5
  ·exact h.s6
  ·exact h.s17
 have e3 : df = [] := h.defers
 subst e3
 exact (congrArg (fun x => (⟨x, []⟩ : Act)) e1).trans (by kernel_rfl)

end Go.Proofs.YtkbmigfkclnlaaaGreatDoor
